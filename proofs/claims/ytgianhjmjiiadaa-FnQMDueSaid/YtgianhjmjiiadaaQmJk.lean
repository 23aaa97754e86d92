/- The script of what is received keeps its contract. -/
import Derived.Test.YtgianhjmjiiadaaQmAc
import Derived.Test.YtgianhjmjiiadaaQmTb
import Derived.KernelRfl
import Derived.Test.YtgianhjmjiiadaaQmAg
import Derived.Test.YtgianhjmjiiadaaQmAh
import Derived.Test.YtgianhjmjiiadaaQmE
section
set_option autoImplicit true
set_option relaxedAutoImplicit true
set_option linter.unusedVariables false
set_option linter.unusedSimpArgs false
set_option maxRecDepth 100000
set_option maxHeartbeats 4000000
namespace Go.Proofs.Ytgianhjmjiiadaa
open Go Go.Sy Go.RowKit
noncomputable def h19e0:SE:= .ite (.eq (.v 1) (.c 3)) (.c 4) (.c 1)
noncomputable def h19e1:SE:= .ite (.eq (.v 1) (.c 2)) (.c 3) h19e0
noncomputable def h19e2:SE:= .ite (.eq (.v 1) (.c 1)) (.c 2) h19e1
noncomputable def h19f0:Fx:=[((.le (.c 0) (.v 1)),true),((.le (.v 1) (.c 3)),true)]
noncomputable def h19f1:Fx:=((.eq (.v 1) (.c 2)),false)::((.eq (.v 1) (.c 1)),false)::h19f0
noncomputable def h19x0:Vl:= .out 0 [.i (.c 2) h19e2] (((.eq (.v 1) (.c 1)),true)::h19f0)
noncomputable def h19x1:Vl:= .out 0 [.i (.c 3) h19e2] (((.eq (.v 1) (.c 2)),true)::((.eq (.v 1) (.c 1)),false)::h19f0)
noncomputable def h19x2:Vl:= .out 0 [.i (.c 4) h19e2] (((.eq (.v 1) (.c 3)),true)::h19f1)
noncomputable def h19x3:Vl:= .out 0 [.i (.c 1) h19e2] (((.eq (.v 1) (.c 3)),false)::h19f1)
noncomputable def h19ls:List Vl:=[h19x0,h19x1,h19x2,h19x3]
noncomputable def h8ax0:Vl:= .go 0 [(100,(.c 0)),(139,(.c (-1))),(138,(.c 0)),(137,(.c 0)),(136,(.c 0)),(135,(.c 0)),(134,(.c 0)),(106,(.c (-1))),(133,(.c 0)),(132,(.c 0)),(131,(.c 0)),(110,(.c 0))] zbt [] [za,zbu,(zg,true)] (.code (.loop (loopB (prm8 Try.prog).P 8 7))) (loopK (prm8 Try.prog).P 8 7)
noncomputable def h8als:List Vl:=[h8ax0]
theorem h8arun:(run (prm8 Try.prog) 900 (enterD (prm8 Try.prog) ct8)).map (vOf (prm8 Try.prog) ct8 (pts8 Try.prog))=h8als:=by kernel_rfl
noncomputable def h8p0e0:SE:= .add (.v 110) (.c 1)
noncomputable def h8p0e1:SE:= .mul (.v 110) (.c 128)
noncomputable def h8p0e2:AE:= .ap 1 (.a (.v 124) (.i h8p0e1 (.a (.v 20) .nil)))
noncomputable def h8p0e3:AE:= .tl (.v 123) (.v 110) (.i (.v 1001) .nil)
noncomputable def h8p0e4:AE:= .tl (.v 122) (.v 110) (.i (.c 0) .nil)
noncomputable def h8p0e5:AE:= .tl (.v 121) (.v 110) (.i (.v 1000) .nil)
noncomputable def h8p0e6:SE:= .mul (.v 110) (.c 8)
noncomputable def h8p0e7:AE:= .tl (.v 120) h8p0e6 zbx
noncomputable def h8p0e8:SE:= .mul (.v 110) (.c 6)
noncomputable def h8p0e9:SE:= .add h8p0e8 (.c 2)
noncomputable def h8p0e10:SE:= .rd (.v 5) h8p0e9
noncomputable def h8p0e11:SE:= .rd (.v 5) h8p0e8
noncomputable def h8p0e12:SE:= .add h8p0e8 (.c 3)
noncomputable def h8p0e13:SE:= .rd (.v 5) h8p0e12
noncomputable def h8p0e14:SE:= .add h8p0e8 (.c 1)
noncomputable def h8p0e15:SE:= .rd (.v 5) h8p0e14
noncomputable def h8p0e16:SE:= .ap 3 (.a (.v 100) (.i (.v 100) (.i h8p0e10 .nil)))
noncomputable def h8p0e17:SE:= .add h8p0e8 (.c 4)
noncomputable def h8p0e18:SE:= .rd (.v 5) h8p0e17
noncomputable def h8p0e19:SE:= .add (.v 137) (.c 1)
noncomputable def h8p0e20:SE:= .ite (.eq h8p0e15 (.c 3)) (.c 4) (.c 1)
noncomputable def h8p0e21:SE:= .ite (.eq h8p0e15 (.c 2)) (.c 3) h8p0e20
noncomputable def h8p0e22:SE:= .ite (.eq h8p0e15 (.c 1)) (.c 2) h8p0e21
noncomputable def h8p0e23:SE:= .ite (.v 101) (.v 138) (.c 0)
noncomputable def h8p0e24:SE:= .add h8p0e13 (.c 25000000)
noncomputable def h8p0e25:SE:= .ite (.not (.and (.not (.v 101)) (.not (.and (.not (.eq h8p0e18 (.c 0))) (.not (.and (.not (.le (.c 2) h8p0e19)) (.not (.eq h8p0e22 (.c 4))))))))) h8p0e23 h8p0e24
noncomputable def h8p0e26:SE:= .ite (.not (.eq h8p0e18 (.c 0))) h8p0e25 (.v 138)
noncomputable def h8p0e27:SE:= .ite (.not (.eq h8p0e18 (.c 0))) h8p0e19 (.v 137)
noncomputable def h8p0e28:SE:= .ite (.le (.v 135) h8p0e10) h8p0e10 (.v 135)
noncomputable def h8p0e29:SE:= .ite (.le (.v 135) h8p0e10) h8p0e13 (.v 134)
noncomputable def h8p0e30:SE:= .add (.v 133) (.c 1)
noncomputable def h8p0e31:SE:= .ite (.eq h8p0e22 (.c 4)) h8p0e30 (.v 133)
noncomputable def h8p0e32:SE:= .add (.v 132) (.c 1)
noncomputable def h8p0e33:SE:= .ite (.eq h8p0e22 (.c 2)) h8p0e32 (.v 132)
noncomputable def h8p0e34:SE:= .add (.v 131) (.c 1)
noncomputable def h8p0e35:SE:= .ite (.eq h8p0e22 (.c 3)) h8p0e34 (.v 131)
noncomputable def h8p0e36:AE:= .tl (.v 120) h8p0e6 zby
noncomputable def h8p0e37:AE:= .ap 3 (.a (.v 100) (.i (.v 100) (.i h8p0e10 .nil)))
noncomputable def h8p0e38:SE:= .add (.v 100) (.c 1)
noncomputable def h8p0e39:SE:= .add h8p0e8 (.c 5)
noncomputable def h8p0e40:SE:= .rd (.v 5) h8p0e39
noncomputable def h8p0e41:SE:= .sub h8p0e13 (.v 134)
noncomputable def h8p0e42:SE:= .mx (.c 0) h8p0e41
noncomputable def h8p0e43:AE:= .ap 8 zbz
noncomputable def h8p0e44:SE:= .ap 4 (.a (.v 100) (.i (.v 100) (.i h8p0e10 .nil)))
noncomputable def h8p0e45:AE:= .ap 5 (.a (.v 100) (.i (.v 100) (.i h8p0e10 .nil)))
noncomputable def h8p0e46:AE:= .tl (.v 120) h8p0e6 (.b (.c true) (.b (.c false) zbw))
noncomputable def h8p0e47:AE:= .tl (.v 120) h8p0e6 (.b (.ap 6 (.a (.v 100) (.i (.v 100) (.i h8p0e10 .nil)))) (.b (.c false) zbw))
noncomputable def h8p0e48:AE:= .tl (.v 120) h8p0e6 (.b (.c false) (.b (.c false) (.i (.c 0) (.i (.c 0) (.i (.v 138) zbv)))))
noncomputable def h8p0e49:AE:= .ap 20 (.a (.v 5) .nil)
noncomputable def h8p0e50:AE:= .ap 21 (.a (.v 5) .nil)
noncomputable def h8p0e51:AE:= .ap 22 (.a (.v 5) .nil)
noncomputable def h8p0f0:Fx:=[za,zbu,(zg,true),zb0,zb1,zb2,zb3,zb4,zb5,zb6,zb7,zb8,zbo,zb9,zca,zcb,zbq,zcc,zcd,((.le (.v 134) (.c 1000000000000000)),true),zce,zcf,zcg,zch,zci,zcj,zck,((.le (.v 138) (.c 2000000000000000)),true),zcl,zcm]
noncomputable def h8p0f1:Fx:=((.le (.c 0) h8p0e15),true)::zcn::h8p0f0
noncomputable def h8p0f2:Fx:=((.le (.c 0) h8p0e10),true)::((.le h8p0e15 (.c 3)),true)::h8p0f1
noncomputable def h8p0f3:Fx:=((.le (.c 0) h8p0e13),true)::((.le h8p0e10 (.c 400)),true)::h8p0f2
noncomputable def zdq:SB:= .le h8p0e13 (.c 1000000000000000)
noncomputable def h8p0f4:Fx:=(zdq,true)::h8p0f3
noncomputable def zdr:SB×Bool:=((.lt h8p0e10 (.v 106)),false)
noncomputable def h8p0f5:Fx:=zdr::((.eq h8p0e11 (.c 0)),true)::h8p0f4
noncomputable def h8p0f6:Fx:=((.ap 6 (.a (.v 100) (.i (.v 100) (.i h8p0e10 .nil)))),false)::h8p0f5
noncomputable def h8p0f7:Fx:=((.eq h8p0e11 (.c 1)),true)::((.eq h8p0e11 (.c 0)),false)::h8p0f4
noncomputable def h8p0f8:Fx:=zcp::((.eq h8p0e40 (.c 0)),true)::h8p0f7
noncomputable def h8p0f9:Fx:=((.v 101),true)::((.eq h8p0e40 (.c 0)),false)::h8p0f7
noncomputable def h8p0f10:Fx:=zcp::h8p0f9
noncomputable def h8p0f11:Fx:=((.v 101),false)::((.eq h8p0e40 (.c 0)),false)::h8p0f7
noncomputable def h8p0f12:Fx:=((.lt h8p0e13 (.v 138)),false)::((.eq (.v 138) (.c 0)),false)::h8p0f11
noncomputable def h8p0f13:Fx:=zcp::h8p0f12
noncomputable def h8p0f14:Fx:=((.eq h8p0e11 (.c 1)),false)::((.eq h8p0e11 (.c 0)),false)::h8p0f4
noncomputable def h8p0f15:Fx:=((.le h8p0e10 (.v 136)),false)::((.eq h8p0e11 (.c 2)),true)::h8p0f14
noncomputable def h8p0f16:Fx:=((.eq h8p0e11 (.c 3)),true)::((.eq h8p0e11 (.c 2)),false)::h8p0f14
noncomputable def h8p0f17:Fx:=((.eq h8p0e11 (.c 3)),false)::((.eq h8p0e11 (.c 2)),false)::h8p0f14
noncomputable def zds:List (Nat×SE):=[(110,h8p0e0)]
noncomputable def zdt:List (Nat×AE):=[(124,h8p0e2),(123,h8p0e3),(122,h8p0e4),(121,h8p0e5),(120,h8p0e7)]
noncomputable def zdu:SB×Bool:=((.lt h8p0e10 (.v 106)),true)
noncomputable def h8p0x0:Vl:= .go 0 zds [] zdt (zdu::((.eq h8p0e11 (.c 0)),true)::h8p0f4) (.exit .normal) (.loop (loopB (prm8 Try.prog).P 8 7)::loopK (prm8 Try.prog).P 8 7)
noncomputable def h8p0x1:Vl:= .go 0 zds [] zdt (((.ap 6 (.a (.v 100) (.i (.v 100) (.i h8p0e10 .nil)))),true)::h8p0f5) (.exit .normal) (.loop (loopB (prm8 Try.prog).P 8 7)::loopK (prm8 Try.prog).P 8 7)
noncomputable def zdv:List (Nat×SE):=[(100,h8p0e16),(139,h8p0e10),(138,h8p0e26),(137,h8p0e27),(135,h8p0e28),(134,h8p0e29),(133,h8p0e31),(132,h8p0e33),(131,h8p0e35),(110,h8p0e0)]
noncomputable def zdw:List (Nat×SB):=[(101,(.not (.and (.not (.v 101)) (.not (.and (.not (.eq h8p0e18 (.c 0))) (.not (.and (.not (.le (.c 2) h8p0e19)) (.not (.eq h8p0e22 (.c 4)))))))))),(100,(.not (.and (.not (.v 100)) (.eq h8p0e18 (.c 0)))))]
noncomputable def zdx:List (Nat×AE):=[(124,h8p0e2),(123,h8p0e3),(122,h8p0e4),(121,h8p0e5),(120,h8p0e36),(100,h8p0e37)]
noncomputable def zdy:SB×Bool:=((.le (.c 1) h8p0e16),true)
noncomputable def zdz:SB×Bool:=((.le h8p0e16 h8p0e38),true)
noncomputable def zd0:SB×Bool:=((.ap 1 (.a h8p0e37 (.i h8p0e16 .nil))),true)
noncomputable def h8p0x2:Vl:= .go 0 zdv zdw zdx (zdy::zdz::zd0::((.eq (.v 139) (.c (-1))),true)::h8p0f6) (.exit .normal) (.loop (loopB (prm8 Try.prog).P 8 7)::loopK (prm8 Try.prog).P 8 7)
noncomputable def h8p0x3:Vl:= .go 0 zdv zdw zdx (zdy::zdz::zd0::((.lt h8p0e10 (.v 139)),true)::((.eq (.v 139) (.c (-1))),false)::h8p0f6) (.exit .normal) (.loop (loopB (prm8 Try.prog).P 8 7)::loopK (prm8 Try.prog).P 8 7)
noncomputable def zd1:List (Nat×SE):=[(100,h8p0e16),(138,h8p0e26),(137,h8p0e27),(135,h8p0e28),(134,h8p0e29),(133,h8p0e31),(132,h8p0e33),(131,h8p0e35),(110,h8p0e0)]
noncomputable def h8p0x4:Vl:= .go 0 zd1 zdw zdx (zdy::zdz::zd0::((.lt h8p0e10 (.v 139)),false)::((.eq (.v 139) (.c (-1))),false)::h8p0f6) (.exit .normal) (.loop (loopB (prm8 Try.prog).P 8 7)::loopK (prm8 Try.prog).P 8 7)
noncomputable def h8p0x5:Vl:= .dead (zcq::((.eq h8p0e40 (.c 0)),true)::h8p0f7)
noncomputable def zd2:List (Nat×SE):=[(151,h8p0e42),(144,(.v 133)),(143,(.v 132)),(142,(.v 131)),(141,h8p0e42),(138,(.c 0)),(137,(.c 0)),(150,(.c 0)),(140,(.v 100))]
noncomputable def zd3:List (Nat×AE):=[(102,h8p0e43)]
noncomputable def h8p0x6:Vl:= .go 2 zd2 zbt zd3 (zcr::h8p0f8) (.code (.loop (loopB (prm8 Try.prog).P 8 19))) (loopK (prm8 Try.prog).P 8 19)
noncomputable def zd4:List (Nat×AE):=[(124,h8p0e2),(123,h8p0e3),(122,h8p0e4),(121,h8p0e5),(120,h8p0e36)]
noncomputable def h8p0x7:Vl:= .go 0 zds [] zd4 (zcs::h8p0f8) (.exit .normal) (.loop (loopB (prm8 Try.prog).P 8 7)::loopK (prm8 Try.prog).P 8 7)
noncomputable def h8p0x8:Vl:= .dead (zcq::h8p0f9)
noncomputable def h8p0x9:Vl:= .go 2 zd2 zbt zd3 (zcr::h8p0f10) (.code (.loop (loopB (prm8 Try.prog).P 8 19))) (loopK (prm8 Try.prog).P 8 19)
noncomputable def h8p0x10:Vl:= .go 0 zds [] zd4 (zcs::h8p0f10) (.exit .normal) (.loop (loopB (prm8 Try.prog).P 8 7)::loopK (prm8 Try.prog).P 8 7)
noncomputable def h8p0x11:Vl:= .go 0 zds [] zd4 (((.eq (.v 138) (.c 0)),true)::h8p0f11) (.exit .normal) (.loop (loopB (prm8 Try.prog).P 8 7)::loopK (prm8 Try.prog).P 8 7)
noncomputable def h8p0x12:Vl:= .go 0 zds [] zd4 (((.lt h8p0e13 (.v 138)),true)::((.eq (.v 138) (.c 0)),false)::h8p0f11) (.exit .normal) (.loop (loopB (prm8 Try.prog).P 8 7)::loopK (prm8 Try.prog).P 8 7)
noncomputable def h8p0x13:Vl:= .dead (zcq::h8p0f12)
noncomputable def h8p0x14:Vl:= .go 2 zd2 zbt zd3 (zcr::h8p0f13) (.code (.loop (loopB (prm8 Try.prog).P 8 19))) (loopK (prm8 Try.prog).P 8 19)
noncomputable def h8p0x15:Vl:= .go 0 zds [] zd4 (zcs::h8p0f13) (.exit .normal) (.loop (loopB (prm8 Try.prog).P 8 7)::loopK (prm8 Try.prog).P 8 7)
noncomputable def h8p0x16:Vl:= .go 0 zds [] zd4 (((.le h8p0e10 (.v 136)),true)::((.eq h8p0e11 (.c 2)),true)::h8p0f14) (.exit .normal) (.loop (loopB (prm8 Try.prog).P 8 7)::loopK (prm8 Try.prog).P 8 7)
noncomputable def h8p0x17:Vl:= .dead (zdu::h8p0f15)
noncomputable def zd5:List (Nat×SE):=[(100,h8p0e44),(136,h8p0e10),(106,h8p0e10),(110,h8p0e0)]
noncomputable def zd6:List (Nat×AE):=[(124,h8p0e2),(123,h8p0e3),(122,h8p0e4),(121,h8p0e5),(120,h8p0e36),(100,h8p0e45)]
noncomputable def h8p0x18:Vl:= .go 0 zd5 [] zd6 (((.le (.c 0) h8p0e44),true)::((.le h8p0e44 (.v 100)),true)::((.ap 1 (.a h8p0e45 (.i h8p0e44 .nil))),true)::zdr::h8p0f15) (.exit .normal) (.loop (loopB (prm8 Try.prog).P 8 7)::loopK (prm8 Try.prog).P 8 7)
noncomputable def zd7:List (Nat×AE):=[(124,h8p0e2),(123,h8p0e3),(122,h8p0e4),(121,h8p0e5),(120,h8p0e46)]
noncomputable def h8p0x19:Vl:= .go 0 zds [] zd7 (zdu::h8p0f16) (.exit .normal) (.loop (loopB (prm8 Try.prog).P 8 7)::loopK (prm8 Try.prog).P 8 7)
noncomputable def zd8:List (Nat×AE):=[(124,h8p0e2),(123,h8p0e3),(122,h8p0e4),(121,h8p0e5),(120,h8p0e47)]
noncomputable def h8p0x20:Vl:= .go 0 zds [] zd8 (zdr::h8p0f16) (.exit .normal) (.loop (loopB (prm8 Try.prog).P 8 7)::loopK (prm8 Try.prog).P 8 7)
noncomputable def zd9:List (Nat×AE):=[(124,h8p0e2),(123,h8p0e3),(122,h8p0e4),(121,h8p0e5),(120,h8p0e48)]
noncomputable def h8p0x21:Vl:= .go 0 zds [] zd9 (((.eq h8p0e11 (.c 4)),true)::h8p0f17) (.exit .normal) (.loop (loopB (prm8 Try.prog).P 8 7)::loopK (prm8 Try.prog).P 8 7)
noncomputable def h8p0x22:Vl:= .go 0 zds [] zd4 (((.eq h8p0e11 (.c 4)),false)::h8p0f17) (.exit .normal) (.loop (loopB (prm8 Try.prog).P 8 7)::loopK (prm8 Try.prog).P 8 7)
noncomputable def h8p0x23:Vl:= .dead ((zdq,false)::h8p0f3)
noncomputable def h8p0x24:Vl:= .dead (((.le (.c 0) h8p0e13),false)::((.le h8p0e10 (.c 400)),true)::h8p0f2)
noncomputable def h8p0x25:Vl:= .dead (((.le h8p0e10 (.c 400)),false)::h8p0f2)
noncomputable def h8p0x26:Vl:= .dead (((.le (.c 0) h8p0e10),false)::((.le h8p0e15 (.c 3)),true)::h8p0f1)
noncomputable def h8p0x27:Vl:= .dead (((.le h8p0e15 (.c 3)),false)::h8p0f1)
noncomputable def h8p0x28:Vl:= .dead (((.le (.c 0) h8p0e15),false)::zcn::h8p0f0)
noncomputable def h8p0x29:Vl:= .out 0 [.a (.v 5) (.v 5) (.v 60) 6,.i (.v 60) (.v 60),.p 1000 (.i (.v 110) (.a (.v 120) (.a (.v 121) (.a (.v 122) (.a (.v 123) (.a (.v 124) .nil)))))) (.i (.v 60) (.a h8p0e49 (.a (.v 500) (.a h8p0e50 (.a (.v 501) (.a h8p0e51 .nil))))))] (zct::h8p0f0)
noncomputable def h8p0ls:List Vl:=[h8p0x0,h8p0x1,h8p0x2,h8p0x3,h8p0x4,h8p0x5,h8p0x6,h8p0x7,h8p0x8,h8p0x9,h8p0x10,h8p0x11,h8p0x12,h8p0x13,h8p0x14,h8p0x15,h8p0x16,h8p0x17,h8p0x18,h8p0x19,h8p0x20,h8p0x21,h8p0x22,h8p0x23,h8p0x24,h8p0x25,h8p0x26,h8p0x27,h8p0x28,h8p0x29]
theorem h8p0run:(run (prm8 Try.prog) 900 (ptD (pts8 Try.prog) 0 8)).map (vOf (prm8 Try.prog) ct8 (pts8 Try.prog))=h8p0ls:=by kernel_rfl
noncomputable def h8p1e27:SE:= .ite (.not (.and (.not (.v 101)) (.not (.and (.not (.eq h8p0e18 (.c 0))) (.not (.and (.not (.ap 21 (.i (.v 136) (.i h8p0e10 zcu)))) (.and (.not (.le (.c 2) h8p0e19)) (.and (.not (.ap 22 (.a h8p0e37 (.i h8p0e16 (.i h8p0e28 (.i (.v 106) (.a (.v 102) .nil))))))) (.not (.eq h8p0e22 (.c 4))))))))))) h8p0e23 h8p0e24
noncomputable def h8p1e28:SE:= .ite (.not (.eq h8p0e18 (.c 0))) h8p1e27 (.v 138)
noncomputable def h8p1e31:SE:= .add (.v 133) (.c 1)
noncomputable def h8p1e32:SE:= .ite (.eq h8p0e22 (.c 4)) h8p1e31 (.v 133)
noncomputable def h8p1e35:SE:= .add (.v 131) (.c 1)
noncomputable def h8p1e36:SE:= .ite (.eq h8p0e22 (.c 3)) h8p1e35 (.v 131)
noncomputable def h8p1f0:Fx:=[za,zbu,(zg,true),zb0,zb1,zb2,zb3,zb4,zb5,zb6,zb7,zb8,zbo,zb9,zca,zcb,zbq,zcc,zcd,((.le (.v 134) (.c 1000000000000000)),true),zce,zcf,zcg,zch,zci,zcj,zck,((.le (.v 138) (.c 2000000000000000)),true),zcl,zcm,zcv,zcw,zcx]
noncomputable def h8p1f1:Fx:=((.le (.c 0) h8p0e15),true)::zcn::h8p1f0
noncomputable def h8p1f2:Fx:=((.le (.c 0) h8p0e10),true)::((.le h8p0e15 (.c 3)),true)::h8p1f1
noncomputable def h8p1f3:Fx:=((.le (.c 0) h8p0e13),true)::((.le h8p0e10 (.c 400)),true)::h8p1f2
noncomputable def h8p1f4:Fx:=(zdq,true)::h8p1f3
noncomputable def h8p1f5:Fx:=zdr::((.eq h8p0e11 (.c 0)),true)::h8p1f4
noncomputable def h8p1f6:Fx:=((.ap 6 (.a (.v 100) (.i (.v 100) (.i h8p0e10 .nil)))),false)::h8p1f5
noncomputable def h8p1f7:Fx:=((.eq h8p0e11 (.c 1)),true)::((.eq h8p0e11 (.c 0)),false)::h8p1f4
noncomputable def h8p1f8:Fx:=zcp::((.eq h8p0e40 (.c 0)),true)::h8p1f7
noncomputable def h8p1f9:Fx:=((.v 101),true)::((.eq h8p0e40 (.c 0)),false)::h8p1f7
noncomputable def h8p1f10:Fx:=zcp::h8p1f9
noncomputable def h8p1f11:Fx:=((.v 101),false)::((.eq h8p0e40 (.c 0)),false)::h8p1f7
noncomputable def h8p1f12:Fx:=((.lt h8p0e13 (.v 138)),false)::((.eq (.v 138) (.c 0)),false)::h8p1f11
noncomputable def h8p1f13:Fx:=zcp::h8p1f12
noncomputable def h8p1f14:Fx:=((.eq h8p0e11 (.c 1)),false)::((.eq h8p0e11 (.c 0)),false)::h8p1f4
noncomputable def h8p1f15:Fx:=((.le h8p0e10 (.v 136)),false)::((.eq h8p0e11 (.c 2)),true)::h8p1f14
noncomputable def h8p1f16:Fx:=((.eq h8p0e11 (.c 3)),true)::((.eq h8p0e11 (.c 2)),false)::h8p1f14
noncomputable def h8p1f17:Fx:=((.eq h8p0e11 (.c 3)),false)::((.eq h8p0e11 (.c 2)),false)::h8p1f14
noncomputable def h8p1x0:Vl:= .go 1 zds [] zdt (zdu::((.eq h8p0e11 (.c 0)),true)::h8p1f4) (.exit .normal) (.loop (loopB (prm8 Try.prog).P 8 7)::loopK (prm8 Try.prog).P 8 7)
noncomputable def h8p1x1:Vl:= .go 1 zds [] zdt (((.ap 6 (.a (.v 100) (.i (.v 100) (.i h8p0e10 .nil)))),true)::h8p1f5) (.exit .normal) (.loop (loopB (prm8 Try.prog).P 8 7)::loopK (prm8 Try.prog).P 8 7)
noncomputable def zea:List (Nat×SE):=[(100,h8p0e16),(139,h8p0e10),(138,h8p1e28),(137,h8p0e27),(135,h8p0e28),(134,h8p0e29),(133,h8p1e32),(132,h8p0e33),(131,h8p1e36),(110,h8p0e0)]
noncomputable def zeb:List (Nat×SB):=[(101,(.not (.and (.not (.v 101)) (.not (.and (.not (.eq h8p0e18 (.c 0))) (.not (.and (.not (.ap 21 (.i (.v 136) (.i h8p0e10 zcu)))) (.and (.not (.le (.c 2) h8p0e19)) (.and (.not (.ap 22 (.a h8p0e37 (.i h8p0e16 (.i h8p0e28 (.i (.v 106) (.a (.v 102) .nil))))))) (.not (.eq h8p0e22 (.c 4)))))))))))),(100,(.not (.and (.not (.v 100)) (.eq h8p0e18 (.c 0)))))]
noncomputable def h8p1x2:Vl:= .go 1 zea zeb zdx (zdy::zdz::zd0::((.eq (.v 139) (.c (-1))),true)::h8p1f6) (.exit .normal) (.loop (loopB (prm8 Try.prog).P 8 7)::loopK (prm8 Try.prog).P 8 7)
noncomputable def h8p1x3:Vl:= .go 1 zea zeb zdx (zdy::zdz::zd0::((.lt h8p0e10 (.v 139)),true)::((.eq (.v 139) (.c (-1))),false)::h8p1f6) (.exit .normal) (.loop (loopB (prm8 Try.prog).P 8 7)::loopK (prm8 Try.prog).P 8 7)
noncomputable def zec:List (Nat×SE):=[(100,h8p0e16),(138,h8p1e28),(137,h8p0e27),(135,h8p0e28),(134,h8p0e29),(133,h8p1e32),(132,h8p0e33),(131,h8p1e36),(110,h8p0e0)]
noncomputable def h8p1x4:Vl:= .go 1 zec zeb zdx (zdy::zdz::zd0::((.lt h8p0e10 (.v 139)),false)::((.eq (.v 139) (.c (-1))),false)::h8p1f6) (.exit .normal) (.loop (loopB (prm8 Try.prog).P 8 7)::loopK (prm8 Try.prog).P 8 7)
noncomputable def h8p1x5:Vl:= .dead (zcq::((.eq h8p0e40 (.c 0)),true)::h8p1f7)
noncomputable def h8p1x6:Vl:= .go 2 zd2 zbt zd3 (zcr::h8p1f8) (.code (.loop (loopB (prm8 Try.prog).P 8 19))) (loopK (prm8 Try.prog).P 8 19)
noncomputable def h8p1x7:Vl:= .go 1 zds [] zd4 (zcs::h8p1f8) (.exit .normal) (.loop (loopB (prm8 Try.prog).P 8 7)::loopK (prm8 Try.prog).P 8 7)
noncomputable def h8p1x8:Vl:= .dead (zcq::h8p1f9)
noncomputable def h8p1x9:Vl:= .go 2 zd2 zbt zd3 (zcr::h8p1f10) (.code (.loop (loopB (prm8 Try.prog).P 8 19))) (loopK (prm8 Try.prog).P 8 19)
noncomputable def h8p1x10:Vl:= .go 1 zds [] zd4 (zcs::h8p1f10) (.exit .normal) (.loop (loopB (prm8 Try.prog).P 8 7)::loopK (prm8 Try.prog).P 8 7)
noncomputable def h8p1x11:Vl:= .go 1 zds [] zd4 (((.eq (.v 138) (.c 0)),true)::h8p1f11) (.exit .normal) (.loop (loopB (prm8 Try.prog).P 8 7)::loopK (prm8 Try.prog).P 8 7)
noncomputable def h8p1x12:Vl:= .go 1 zds [] zd4 (((.lt h8p0e13 (.v 138)),true)::((.eq (.v 138) (.c 0)),false)::h8p1f11) (.exit .normal) (.loop (loopB (prm8 Try.prog).P 8 7)::loopK (prm8 Try.prog).P 8 7)
noncomputable def h8p1x13:Vl:= .dead (zcq::h8p1f12)
noncomputable def h8p1x14:Vl:= .go 2 zd2 zbt zd3 (zcr::h8p1f13) (.code (.loop (loopB (prm8 Try.prog).P 8 19))) (loopK (prm8 Try.prog).P 8 19)
noncomputable def h8p1x15:Vl:= .go 1 zds [] zd4 (zcs::h8p1f13) (.exit .normal) (.loop (loopB (prm8 Try.prog).P 8 7)::loopK (prm8 Try.prog).P 8 7)
noncomputable def h8p1x16:Vl:= .go 1 zds [] zd4 (((.le h8p0e10 (.v 136)),true)::((.eq h8p0e11 (.c 2)),true)::h8p1f14) (.exit .normal) (.loop (loopB (prm8 Try.prog).P 8 7)::loopK (prm8 Try.prog).P 8 7)
noncomputable def h8p1x17:Vl:= .dead (zdu::h8p1f15)
noncomputable def h8p1x18:Vl:= .go 1 zd5 [] zd6 (((.le (.c 0) h8p0e44),true)::((.le h8p0e44 (.v 100)),true)::((.ap 1 (.a h8p0e45 (.i h8p0e44 .nil))),true)::zdr::h8p1f15) (.exit .normal) (.loop (loopB (prm8 Try.prog).P 8 7)::loopK (prm8 Try.prog).P 8 7)
noncomputable def h8p1x19:Vl:= .go 1 zds [] zd7 (zdu::h8p1f16) (.exit .normal) (.loop (loopB (prm8 Try.prog).P 8 7)::loopK (prm8 Try.prog).P 8 7)
noncomputable def h8p1x20:Vl:= .go 1 zds [] zd8 (zdr::h8p1f16) (.exit .normal) (.loop (loopB (prm8 Try.prog).P 8 7)::loopK (prm8 Try.prog).P 8 7)
noncomputable def h8p1x21:Vl:= .go 1 zds [] zd9 (((.eq h8p0e11 (.c 4)),true)::h8p1f17) (.exit .normal) (.loop (loopB (prm8 Try.prog).P 8 7)::loopK (prm8 Try.prog).P 8 7)
noncomputable def h8p1x22:Vl:= .go 1 zds [] zd4 (((.eq h8p0e11 (.c 4)),false)::h8p1f17) (.exit .normal) (.loop (loopB (prm8 Try.prog).P 8 7)::loopK (prm8 Try.prog).P 8 7)
noncomputable def h8p1x23:Vl:= .dead ((zdq,false)::h8p1f3)
noncomputable def h8p1x24:Vl:= .dead (((.le (.c 0) h8p0e13),false)::((.le h8p0e10 (.c 400)),true)::h8p1f2)
noncomputable def h8p1x25:Vl:= .dead (((.le h8p0e10 (.c 400)),false)::h8p1f2)
noncomputable def h8p1x26:Vl:= .dead (((.le (.c 0) h8p0e10),false)::((.le h8p0e15 (.c 3)),true)::h8p1f1)
noncomputable def h8p1x27:Vl:= .dead (((.le h8p0e15 (.c 3)),false)::h8p1f1)
noncomputable def h8p1x28:Vl:= .dead (((.le (.c 0) h8p0e15),false)::zcn::h8p1f0)
noncomputable def h8p1x29:Vl:= .out 0 [.a (.v 5) (.v 5) (.v 60) 6,.i (.v 60) (.v 60),.p 1000 (.i (.v 110) (.a (.v 120) (.a (.v 121) (.a (.v 122) (.a (.v 123) (.a (.v 124) .nil)))))) (.i (.v 60) (.a h8p0e49 (.a (.v 500) (.a h8p0e50 (.a (.v 501) (.a h8p0e51 .nil))))))] (zct::h8p1f0)
noncomputable def h8p1ls:List Vl:=[h8p1x0,h8p1x1,h8p1x2,h8p1x3,h8p1x4,h8p1x5,h8p1x6,h8p1x7,h8p1x8,h8p1x9,h8p1x10,h8p1x11,h8p1x12,h8p1x13,h8p1x14,h8p1x15,h8p1x16,h8p1x17,h8p1x18,h8p1x19,h8p1x20,h8p1x21,h8p1x22,h8p1x23,h8p1x24,h8p1x25,h8p1x26,h8p1x27,h8p1x28,h8p1x29]
theorem h8p1run:(run (prm8 Try.prog) 900 (ptD (pts8 Try.prog) 1 8)).map (vOf (prm8 Try.prog) ct8 (pts8 Try.prog))=h8p1ls:=by kernel_rfl
noncomputable def h8p2e0:SE:= .add (.v 150) (.c 1)
noncomputable def h8p2e1:SE:= .mul (.v 150) (.c 2)
noncomputable def h8p2e2:SE:= .rd (.v 102) h8p2e1
noncomputable def h8p2e3:SE:= .add h8p2e1 (.c 1)
noncomputable def h8p2e4:SE:= .rd (.v 102) h8p2e3
noncomputable def h8p2e5:AE:= .tl (.v 103) h8p2e1 (.i h8p2e2 (.i h8p2e4 .nil))
noncomputable def h8p2e8:AE:= .ap 1 (.a (.v 124) (.i h8p0e1 (.a (.v 103) .nil)))
noncomputable def h8p2e10:AE:= .tl (.v 122) (.v 110) (.i (.v 150) .nil)
noncomputable def h8p2e13:AE:= .tl (.v 120) h8p0e6 (.b (.c true) (.b (.c false) (.i (.c 0) (.i (.v 151) (.i (.c 0) (.i (.v 131) (.i (.v 132) (.i (.v 133) .nil))))))))
noncomputable def h8p2f0:Fx:=[za,zbu,(zg,true),zb0,zb1,zb2,zb3,zb4,zb5,zb6,zb7,zb8,zbo,zb9,zca,zcb,zbq,zcc,zcd,((.le (.v 134) (.c 1000000000000000)),true),zce,zcf,zcg,zch,zci,zcj,zck,((.le (.v 138) (.c 2000000000000000)),true),zcl,zcm,zcv,zcw,zcx,((.le (.c 0) (.v 150)),true),((.le (.v 150) (.c 51)),true),((.le (.v 150) (.v 140)),true),zcn]
noncomputable def h8p2x0:Vl:= .go 2 [(150,h8p2e0)] [] [(103,h8p2e5)] (((.lt (.v 150) (.v 140)),true)::h8p2f0) (.exit .normal) (.loop (loopB (prm8 Try.prog).P 8 19)::loopK (prm8 Try.prog).P 8 19)
noncomputable def zed:List (Nat×AE):=[(124,h8p2e8),(123,h8p0e3),(122,h8p2e10),(121,h8p0e5),(120,h8p2e13)]
noncomputable def h8p2x1:Vl:= .go 1 zds [] zed (((.lt (.v 150) (.v 140)),false)::h8p2f0) (.exit .normal) (.loop (loopB (prm8 Try.prog).P 8 7)::loopK (prm8 Try.prog).P 8 7)
noncomputable def h8p2ls:List Vl:=[h8p2x0,h8p2x1]
theorem h8p2run:(run (prm8 Try.prog) 900 (ptD (pts8 Try.prog) 2 8)).map (vOf (prm8 Try.prog) ct8 (pts8 Try.prog))=h8p2ls:=by kernel_rfl
theorem ct19_ok:CtOk Try.prog fns ct19:=by
 refine ct_of_pts (p:=prm19 Try.prog) (pts:=[]) (n:=900) (c0:=enterD (prm19 Try.prog) ct19) (fun E hE=>prm19_ok E hE) rfl (by intro q hq;cases hq) Try.func19 (by kernel_rfl) (by intro t ht;cases ht) (fun _ _ _=>True) (fun _ _ _=>0) h19ls (by kernel_rfl) ?_ (by intro i t ht;cases ht)
 intro E hE hF
 refine ⟨fun a ha=>?_,fun x hx=>?_⟩
 ·obtain rfl:=Option.some.inj ha;intro q hq;cases hq
 ·unfold h19ls at hx
  have dT:(SE.ite (.eq (.v 1) (.c 1)) (.c 2) (.ite (.eq (.v 1) (.c 2)) (.c 3) (.ite (.eq (.v 1) (.c 3)) (.c 4) (.c 1)))).den E=if (E.i 1==1)=true then 2 else if (E.i 1==2)=true then 3 else if (E.i 1==3)=true then 4 else 1:=rfl
  simp only [List.mem_cons,List.not_mem_nil,or_false] at hx
  rcases hx with rfl|rfl|rfl|rfl
  all_goals
   intro hf
   simp only [h19f0,h19f1,facts_cons,facts_nil,eq_t,eq_f,d_v,d_c,and_true] at hf
   refine ⟨rfl,?_⟩
   simp only [List.forall_mem_cons,List.not_mem_nil,false_imp_iff,implies_true,and_true,true_and,Eqn.ok]
   refine Eq.trans ?_ dT.symm
   simp [hf,d_c]
theorem prm8_ok (E:Env) (hE:E.fn=fns):PrmOk E (prm8 Try.prog) where
 bt:=by
  intro b hb
  rw [hE]
  have:b=btRecApp 29 1000 1 rq:=by simpa [prm8] using hb
  subst this
  obtain ⟨i,z,hi,hz,hzc,his,hib⟩:=info_of i35
  exact btRecApp_ok rokq t29 hi hz (by rw [hzc,his]) his (by omega) (by decide) (by decide)
 ct:=by
  intro c hc
  have:c=ct19∨c=ct39 true∨c=ct32n∨c=ct32x∨c=ct33n∨c=ct33t∨c=ct49 true:=by simpa [prm8] using hc
  rw [hE]
  rcases this with rfl|rfl|rfl|rfl|rfl|rfl|rfl
  ·exact ct19_ok
  ·exact ct39a_ok
  ·exact ct32n_ok
  ·exact ct32x_ok
  ·exact ct33n_ok
  ·exact ct33t_ok
  ·exact ct49a_ok
 mix:=Checked.mixed Try.checked
 okf:=okf_call
 body:=okf_body
 mts:=by intro x hx;cases hx
 dfr:=by
  intro f hf a w
  have:f=13:=by simpa [prm8] using hf
  subst this
  exact catch_idle a w
 dfk:=by
  intro f hf
  have:f=13:=by simpa [prm8] using hf
  subst this;decide
theorem le_of_not_lt' {E:Env} {x y:SE} (h:(SB.lt x y).den E=false):y.den E≤x.den E:=lt_f.1 h
theorem out8 {E0 E:Env} {i:Nat} (hE0:E0.fn=fns) (hE:E.fn=fns) (hR:R8 E0 E i) (hin:i=(E0.i 60).toNat) (hn0:0≤E0.i 60) {a:Nat} {es:List Eqn} (ha:a=0:=by rfl)
 (hes:es=[.a (.v 5) (.v 5) (.v 60) 6,.i (.v 60) (.v 60),.p 1000 (.i (.v 110) (.a (.v 120) (.a (.v 121) (.a (.v 122) (.a (.v 123) (.a (.v 124) .nil)))))) (.i (.v 60) (.a (.ap 20 slS) (.a (.v 500) (.a (.ap 21 slS) (.a (.v 501) (.a (.ap 22 slS) .nil))))))]:=by rfl):
 altSel E0 ct8.alts=ct8.alts[a]?∧ ∃V,(∀q∈es,q.ok E (E0.upd xb ct8.nx V))∧ ∀a',ct8.alts[a]?=some a'→Facts (E0.upd xb ct8.nx V) a'.xf:=by
 subst ha;subst hes
 obtain ⟨V,hV⟩: ∃V:Env,V={ E0 with a:=fun j=>if j=500 then E.a 121 else E.a 123 }:=⟨_,rfl⟩
 have HU:AgE 500 E0 (E0.upd xb 2 V):=Env.upd_ag E0 xb 2 V
 have HJ:AgP 100 (E0.upd xb 2 V) E:=⟨fun j hj=>(hR.ag.i j hj).trans (HU.i j (by omega)).symm,fun j hj=>(hR.ag.b j hj).trans (HU.b j (by omega)).symm,fun j hj=>(hR.ag.a j hj).trans (HU.a j (by omega)).symm,hR.ag.fn.trans HU.fn.symm⟩
 have hEU:(E0.upd xb 2 V).fn=fns:=HU.fn.trans hE0
 have u60:(E0.upd xb 2 V).i 60=E0.i 60:=HU.i 60 (by decide)
 have u5:(E0.upd xb 2 V).a 5=E0.a 5:=HU.a 5 (by decide)
 have u500:(E0.upd xb 2 V).a 500=E.a 121:=by
  show (if xb≤500∧500<xb+2 then V.a (xb+(500 - xb)) else E0.a 500)=_
  rw [if_pos ⟨by decide,by decide⟩,hV];rfl
 have u501:(E0.upd xb 2 V).a 501=E.a 123:=by
  show (if xb≤501∧501<xb+2 then V.a (xb+(501 - xb)) else E0.a 501)=_
  rw [if_pos ⟨by decide,by decide⟩,hV];rfl
 have av: ∀(j:Nat) (X:Env),(AE.v j).den X=X.a j:=fun j X=>by funext t;simp only [AE.den]
 have hnn:((SE.v 60).den (E0.upd xb 2 V)).toNat=i:=by
  show ((E0.upd xb 2 V).i 60).toNat=i
  rw [u60];exact hin.symm
 have c20: ∀(n:Nat) (f:(Nat→Int)→Nat→Int),(∀l,fns.a n [.a l]=f l)→(AE.ap n slS).den (E0.upd xb 2 V)=f (E0.a 5):=fun n f hf=>by
  funext t;simp only [AE.den,slS,SL.den,hEU]
  show fns.a n [.a (fun j=>(E0.upd xb 2 V).a 5 j)] t=_
  rw [hf,u5]
 refine ⟨rfl,V,?_,fun a' ha'=>(by cases ha';intro q hq;cases hq)⟩
 have r1:(Eqn.a (.v 5) (.v 5) (.v 60) 6).ok E (E0.upd xb 2 V):=Eqn.a_ag HJ _ _ _ rfl
 have r0:(Eqn.i (.v 60) (.v 60)).ok E (E0.upd xb 2 V):=Eqn.i_ag HJ _ rfl
 have r2:(Eqn.p 1000 (.i (.v 110) (.a (.v 120) (.a (.v 121) (.a (.v 122) (.a (.v 123) (.a (.v 124) .nil)))))) (.i (.v 60) (.a (.ap 20 slS) (.a (.v 500) (.a (.ap 21 slS) (.a (.v 501) (.a (.ap 22 slS) .nil))))))).ok E (E0.upd xb 2 V):=by
  refine Eqn.recs rokq hE hEU (by rw [hnn];show (E.i 110).toNat=i;rw [hR.i110];omega) (by rw [av,av,u500]) (by rw [av,av,u501]) (fun j hj=>?_) (fun k hk=>?_) (fun a f u ha hf hu=>?_)
  ·rw [hnn] at hj
   rw [av,c20 20 colA (fun l=>rfl)];exact hR.A j hj
  ·rw [hnn] at hk
   rw [av,c20 21 colL (fun l=>rfl)]
   have hk':k<i*1:=hk
   exact hR.L k (by omega)
  ·rw [hnn] at ha
   have hf1:f<1:=hf
   have hf0:f=0:=by omega
   subst hf0
   rw [av] at hu⊢
   rw [c20 22 colC (fun l=>rfl)]
   have e1:a*rq.m+0=a:=by show a*1+0=a;omega
   rw [e1] at hu⊢
   have e2:(rq.nk 0).length=2:=rfl
   rw [e2,hR.L a (by omega)] at hu
   exact hR.C a (by omega) u hu
 intro q hq
 simp only [List.mem_cons,List.not_mem_nil,or_false] at hq
 rcases hq with rfl|rfl|rfl
 ·exact r1
 ·exact r0
 ·exact r2
theorem h8p0x2_st {E:Env} (hE:E.fn=fns) (o:Nat→Value):rcvB (ofE false E).k (ofE false E) ((rsE 2).den E) ((rsE 1).den E) ((rsE 3).den E) ((SB.eq (rsE 4) (.c 0)).den E) ((rsE 2).den E)=ofE false (E.put zdv zdw zdx o):=by
 obtain ⟨ii,bb,aa,oo,fn⟩:=E
 have:fn=fns:=hE
 subst this;rfl
theorem h8p0x3_st {E:Env} (hE:E.fn=fns) (o:Nat→Value):rcvB (ofE false E).k (ofE false E) ((rsE 2).den E) ((rsE 1).den E) ((rsE 3).den E) ((SB.eq (rsE 4) (.c 0)).den E) ((rsE 2).den E)=ofE false (E.put zdv zdw zdx o):=by
 obtain ⟨ii,bb,aa,oo,fn⟩:=E
 have:fn=fns:=hE
 subst this;rfl
theorem h8p0x4_st {E:Env} (hE:E.fn=fns) (o:Nat→Value):rcvB (ofE false E).k (ofE false E) ((rsE 2).den E) ((rsE 1).den E) ((rsE 3).den E) ((SB.eq (rsE 4) (.c 0)).den E) (E.i 139)=ofE false (E.put zd1 zdw zdx o):=by
 obtain ⟨ii,bb,aa,oo,fn⟩:=E
 have:fn=fns:=hE
 subst this;rfl
theorem h8p0x6_st {E:Env} (hE:E.fn=fns) (o:Nat→Value):fram (ofE false E)=ofE true (E.put zd2 zbt zd3 o):=by
 obtain ⟨ii,bb,aa,oo,fn⟩:=E
 have:fn=fns:=hE
 subst this;rfl
theorem h8p0x9_st {E:Env} (hE:E.fn=fns) (o:Nat→Value):fram (ofE false E)=ofE true (E.put zd2 zbt zd3 o):=by
 obtain ⟨ii,bb,aa,oo,fn⟩:=E
 have:fn=fns:=hE
 subst this;rfl
theorem h8p0x14_st {E:Env} (hE:E.fn=fns) (o:Nat→Value):fram (ofE false E)=ofE true (E.put zd2 zbt zd3 o):=by
 obtain ⟨ii,bb,aa,oo,fn⟩:=E
 have:fn=fns:=hE
 subst this;rfl
theorem h8p0x18_st {E:Env} (hE:E.fn=fns) (o:Nat→Value) (h:E.i 136<(rsE 2).den E):cutS (ofE false E) ((rsE 2).den E)=ofE false (E.put zd5 [] zd6 o):=by
 unfold cutS
 rw [if_neg (show¬ (rsE 2).den E≤(ofE false E).ig from Int.not_le.2 h)]
 obtain ⟨ii,bb,aa,oo,fn⟩:=E
 have:fn=fns:=hE
 subst this;rfl
theorem h8p0x0_ok {E0 E:Env} {i b:Nat} (c:Cx E0 E i false b):VOkX (pts8 Try.prog) ct8 I8 mu8 (some b) E0 E h8p0x0:=by
 intro hf
 have hlt:=c.lt (fat hf 8 rfl)
 have hk:=c.kd (n:=0) (fat hf 1 rfl)
 have ho:=c.old1 (fat hf 0 rfl)
 refine ⟨⟨_,rfl,.inr ⟨rfl,rfl⟩⟩,fun o=>?_⟩
 have R':R8 E0 (E.put zds [] zdt o) (i+1):=c.fin hlt (.c false) (.c true) (.c 0) (.c 0) (.c 0) (.c 0) (.c 0) (.c 0) (.v 20) (c.R.ag.put o) rfl rfl (say_old hk ho) rfl (colL_f (frA_f (by rw [hk];decide))).symm rfl (fun u hu=>by rw [colL_f (frA_f (by rw [hk];decide))] at hu;exact absurd hu (Nat.not_lt_zero _))
 exact ⟨I8.mk0 R' (by rw [st_old hk ho];exact ⟨c.S.e,c.S.a,c.S.n0,c.S.m0⟩),fun b' hb=>by cases hb;exact c.mu hlt rfl (by decide)⟩
theorem h8p0x1_ok {E0 E:Env} {i b:Nat} (c:Cx E0 E i false b):VOkX (pts8 Try.prog) ct8 I8 mu8 (some b) E0 E h8p0x1:=by
 intro hf
 have hlt:=c.lt (fat hf 9 rfl)
 have hk:=c.kd (n:=0) (fat hf 2 rfl)
 have ho:=c.old2 (fat hf 0 rfl)
 refine ⟨⟨_,rfl,.inr ⟨rfl,rfl⟩⟩,fun o=>?_⟩
 have R':R8 E0 (E.put zds [] zdt o) (i+1):=c.fin hlt (.c false) (.c true) (.c 0) (.c 0) (.c 0) (.c 0) (.c 0) (.c 0) (.v 20) (c.R.ag.put o) rfl rfl (say_old hk ho) rfl (colL_f (frA_f (by rw [hk];decide))).symm rfl (fun u hu=>by rw [colL_f (frA_f (by rw [hk];decide))] at hu;exact absurd hu (Nat.not_lt_zero _))
 exact ⟨I8.mk0 R' (by rw [st_old hk ho];exact ⟨c.S.e,c.S.a,c.S.n0,c.S.m0⟩),fun b' hb=>by cases hb;exact c.mu hlt rfl (by decide)⟩
theorem h8p0x2_ok {E0 E:Env} {i b:Nat} (c:Cx E0 E i false b):VOkX (pts8 Try.prog) ct8 I8 mu8 (some b) E0 E h8p0x2:=by
 intro hf
 have hlt:=c.lt (fat hf 13 rfl)
 have hk:=c.kd (n:=0) (fat hf 6 rfl)
 have ho:=(c.old3 (fat hf 5 rfl)).trans (fat hf 4 rfl)
 have hn:(1:Int)≤h8p0e16.den E:=le_t.1 (fat hf 0 rfl)
 have hl:(if (ofE false E).lw= -1∨(rsE 2).den E<(ofE false E).lw then (rsE 2).den E else (ofE false E).lw)=(rsE 2).den E:=if_pos (.inl (eq_t.1 (fat hf 3 rfl)))
 refine ⟨⟨_,rfl,.inr ⟨rfl,rfl⟩⟩,fun o=>?_⟩
 have R':R8 E0 (E.put zdv zdw zdx o) (i+1):=c.fin hlt (.c false) (.c false) (.c 0) (.c 0) (.c 0) (.c 0) (.c 0) (.c 0) (.v 20) (c.R.ag.put o) rfl rfl (say_new hk ho) rfl (colL_f (frA_f (by rw [hk];decide))).symm rfl (fun u hu=>by rw [colL_f (frA_f (by rw [hk];decide))] at hu;exact absurd hu (Nat.not_lt_zero _))
 exact ⟨I8.mk0 R' (S8.of (by rw [st_new hk ho,c.S.rcv,c.el,←c.pn,←c.ec,←c.tm,rcv_b rfl hl];exact h8p0x2_st c.hE o) (by show 0≤h8p0e16.den E;omega) (fun h=>(by cases h))),fun b' hb=>by cases hb;exact c.mu hlt rfl (by decide)⟩
theorem h8p0x3_ok {E0 E:Env} {i b:Nat} (c:Cx E0 E i false b):VOkX (pts8 Try.prog) ct8 I8 mu8 (some b) E0 E h8p0x3:=by
 intro hf
 have hlt:=c.lt (fat hf 14 rfl)
 have hk:=c.kd (n:=0) (fat hf 7 rfl)
 have ho:=(c.old3 (fat hf 6 rfl)).trans (fat hf 5 rfl)
 have hn:(1:Int)≤h8p0e16.den E:=le_t.1 (fat hf 0 rfl)
 have hl:(if (ofE false E).lw= -1∨(rsE 2).den E<(ofE false E).lw then (rsE 2).den E else (ofE false E).lw)=(rsE 2).den E:=if_pos (.inr (lt_t.1 (fat hf 3 rfl)))
 refine ⟨⟨_,rfl,.inr ⟨rfl,rfl⟩⟩,fun o=>?_⟩
 have R':R8 E0 (E.put zdv zdw zdx o) (i+1):=c.fin hlt (.c false) (.c false) (.c 0) (.c 0) (.c 0) (.c 0) (.c 0) (.c 0) (.v 20) (c.R.ag.put o) rfl rfl (say_new hk ho) rfl (colL_f (frA_f (by rw [hk];decide))).symm rfl (fun u hu=>by rw [colL_f (frA_f (by rw [hk];decide))] at hu;exact absurd hu (Nat.not_lt_zero _))
 exact ⟨I8.mk0 R' (S8.of (by rw [st_new hk ho,c.S.rcv,c.el,←c.pn,←c.ec,←c.tm,rcv_b rfl hl];exact h8p0x3_st c.hE o) (by show 0≤h8p0e16.den E;omega) (fun h=>(by cases h))),fun b' hb=>by cases hb;exact c.mu hlt rfl (by decide)⟩
theorem h8p0x4_ok {E0 E:Env} {i b:Nat} (c:Cx E0 E i false b):VOkX (pts8 Try.prog) ct8 I8 mu8 (some b) E0 E h8p0x4:=by
 intro hf
 have hlt:=c.lt (fat hf 14 rfl)
 have hk:=c.kd (n:=0) (fat hf 7 rfl)
 have ho:=(c.old3 (fat hf 6 rfl)).trans (fat hf 5 rfl)
 have hn:(1:Int)≤h8p0e16.den E:=le_t.1 (fat hf 0 rfl)
 have hl:(if (ofE false E).lw= -1∨(rsE 2).den E<(ofE false E).lw then (rsE 2).den E else (ofE false E).lw)=E.i 139:=if_neg (fun h=>h.elim (eq_f.1 (fat hf 4 rfl)) (Int.not_lt.2 (lt_f.1 (fat hf 3 rfl))))
 refine ⟨⟨_,rfl,.inr ⟨rfl,rfl⟩⟩,fun o=>?_⟩
 have R':R8 E0 (E.put zd1 zdw zdx o) (i+1):=c.fin hlt (.c false) (.c false) (.c 0) (.c 0) (.c 0) (.c 0) (.c 0) (.c 0) (.v 20) (c.R.ag.put o) rfl rfl (say_new hk ho) rfl (colL_f (frA_f (by rw [hk];decide))).symm rfl (fun u hu=>by rw [colL_f (frA_f (by rw [hk];decide))] at hu;exact absurd hu (Nat.not_lt_zero _))
 exact ⟨I8.mk0 R' (S8.of (by rw [st_new hk ho,c.S.rcv,c.el,←c.pn,←c.ec,←c.tm,rcv_b rfl hl];exact h8p0x4_st c.hE o) (by show 0≤h8p0e16.den E;omega) (fun h=>(by cases h))),fun b' hb=>by cases hb;exact c.mu hlt rfl (by decide)⟩
theorem h8p0x5_ok {E0 E:Env} {i b:Nat} (c:Cx E0 E i false b):VOkX (pts8 Try.prog) ct8 I8 mu8 (some b) E0 E h8p0x5:=by
 intro hf
 exact c.dead1 (fat hf 0 rfl)
theorem h8p0x6_ok {E0 E:Env} {i b:Nat} (c:Cx E0 E i false b):VOkX (pts8 Try.prog) ct8 I8 mu8 (some b) E0 E h8p0x6:=by
 intro hf
 have hlt:=c.lt (fat hf 11 rfl)
 have hk:=c.kd (n:=1) (fat hf 3 rfl)
 have q0:(SB.v 100).den E=true:=fat hf 0 rfl
 have q1:(SB.eq (rsE 5) (.c 0)).den E=true:=fat hf 2 rfl
 have ha:asks (sAt (E0.a 5) i) (tmA (E0.a 5) i) (onA (E0.a 5) i)=true:=by rw [c.asks];simp [q0,q1]
 have hfr:=frA_t hk ha
 have hnw:(ofE false E).nw=true:=q0
 have hn1:=c.I.nw hnw
 have hn2:=c.I.n1
 have hne:(sAt (E0.a 5) i).n≠0:=by
  have h1:(sAt (E0.a 5) i).n=(ofE false E).n:=(congrArg St.n c.S.e).trans rfl
  omega
 refine ⟨⟨_,rfl,.inl ⟨rfl,rfl⟩⟩,fun o=>?_⟩
 refine ⟨I8.mk2 (q:=0) (E:=(E.put zd2 zbt zd3 o)) ⟨c.R.ag.put o,c.R.i110,c.R.le,c.R.A,c.R.L,c.R.C⟩ (S8.of (by rw [st_fr hk ha,c.S.full hne];exact h8p0x6_st c.hE o) c.S.n0 (fun _=>c.S.n0)) ⟨hlt,hfr,?_,rfl,c.S.n0,fun t ht=>absurd ht (Nat.not_lt_zero _)⟩,fun b' hb=>?_⟩
 ·unfold dlC
  rw [hfr,if_pos rfl,c.S.e,←c.tm];rfl
 ·cases hb
  rw [c.b]
  show (E0.i 60 - E.i 110).toNat*200+(E.i 100 - 0).toNat<_
  have h1:(E.i 100).toNat≤51:=hn2
  omega
theorem h8p0x7_ok {E0 E:Env} {i b:Nat} (c:Cx E0 E i false b):VOkX (pts8 Try.prog) ct8 I8 mu8 (some b) E0 E h8p0x7:=by
 intro hf
 have hlt:=c.lt (fat hf 11 rfl)
 have hk:=c.kd (n:=1) (fat hf 3 rfl)
 have q0:(SB.v 100).den E=false:=fat hf 0 rfl
 have q1:(SB.eq (rsE 5) (.c 0)).den E=true:=fat hf 2 rfl
 have ha:asks (sAt (E0.a 5) i) (tmA (E0.a 5) i) (onA (E0.a 5) i)=false:=by rw [c.asks];simp [q0,q1]
 refine ⟨⟨_,rfl,.inr ⟨rfl,rfl⟩⟩,fun o=>?_⟩
 have R':R8 E0 (E.put zds [] zd4 o) (i+1):=c.fin hlt (.c false) (.c false) (.c 0) (.c 0) (.c 0) (.c 0) (.c 0) (.c 0) (.v 20) (c.R.ag.put o) rfl rfl (say_non hk ha) rfl (colL_f (frA_n ha)).symm rfl (fun u hu=>by rw [colL_f (frA_n ha)] at hu;exact absurd hu (Nat.not_lt_zero _))
 exact ⟨I8.mk0 R' (by rw [st_non hk ha];exact ⟨c.S.e,c.S.a,c.S.n0,c.S.m0⟩),fun b' hb=>by cases hb;exact c.mu hlt rfl (by decide)⟩
theorem h8p0x8_ok {E0 E:Env} {i b:Nat} (c:Cx E0 E i false b):VOkX (pts8 Try.prog) ct8 I8 mu8 (some b) E0 E h8p0x8:=by
 intro hf
 exact c.dead1 (fat hf 0 rfl)
theorem h8p0x9_ok {E0 E:Env} {i b:Nat} (c:Cx E0 E i false b):VOkX (pts8 Try.prog) ct8 I8 mu8 (some b) E0 E h8p0x9:=by
 intro hf
 have hlt:=c.lt (fat hf 12 rfl)
 have hk:=c.kd (n:=1) (fat hf 4 rfl)
 have q0:(SB.v 100).den E=true:=fat hf 0 rfl
 have q1:(SB.eq (rsE 5) (.c 0)).den E=false:=fat hf 3 rfl
 have q2:(SB.v 101).den E=true:=fat hf 2 rfl
 have ha:asks (sAt (E0.a 5) i) (tmA (E0.a 5) i) (onA (E0.a 5) i)=true:=by rw [c.asks];simp [q0,q1,q2]
 have hfr:=frA_t hk ha
 have hnw:(ofE false E).nw=true:=q0
 have hn1:=c.I.nw hnw
 have hn2:=c.I.n1
 have hne:(sAt (E0.a 5) i).n≠0:=by
  have h1:(sAt (E0.a 5) i).n=(ofE false E).n:=(congrArg St.n c.S.e).trans rfl
  omega
 refine ⟨⟨_,rfl,.inl ⟨rfl,rfl⟩⟩,fun o=>?_⟩
 refine ⟨I8.mk2 (q:=0) (E:=(E.put zd2 zbt zd3 o)) ⟨c.R.ag.put o,c.R.i110,c.R.le,c.R.A,c.R.L,c.R.C⟩ (S8.of (by rw [st_fr hk ha,c.S.full hne];exact h8p0x9_st c.hE o) c.S.n0 (fun _=>c.S.n0)) ⟨hlt,hfr,?_,rfl,c.S.n0,fun t ht=>absurd ht (Nat.not_lt_zero _)⟩,fun b' hb=>?_⟩
 ·unfold dlC
  rw [hfr,if_pos rfl,c.S.e,←c.tm];rfl
 ·cases hb
  rw [c.b]
  show (E0.i 60 - E.i 110).toNat*200+(E.i 100 - 0).toNat<_
  have h1:(E.i 100).toNat≤51:=hn2
  omega
theorem h8p0x10_ok {E0 E:Env} {i b:Nat} (c:Cx E0 E i false b):VOkX (pts8 Try.prog) ct8 I8 mu8 (some b) E0 E h8p0x10:=by
 intro hf
 have hlt:=c.lt (fat hf 12 rfl)
 have hk:=c.kd (n:=1) (fat hf 4 rfl)
 have q0:(SB.v 100).den E=false:=fat hf 0 rfl
 have q1:(SB.eq (rsE 5) (.c 0)).den E=false:=fat hf 3 rfl
 have q2:(SB.v 101).den E=true:=fat hf 2 rfl
 have ha:asks (sAt (E0.a 5) i) (tmA (E0.a 5) i) (onA (E0.a 5) i)=false:=by rw [c.asks];simp [q0,q1,q2]
 refine ⟨⟨_,rfl,.inr ⟨rfl,rfl⟩⟩,fun o=>?_⟩
 have R':R8 E0 (E.put zds [] zd4 o) (i+1):=c.fin hlt (.c false) (.c false) (.c 0) (.c 0) (.c 0) (.c 0) (.c 0) (.c 0) (.v 20) (c.R.ag.put o) rfl rfl (say_non hk ha) rfl (colL_f (frA_n ha)).symm rfl (fun u hu=>by rw [colL_f (frA_n ha)] at hu;exact absurd hu (Nat.not_lt_zero _))
 exact ⟨I8.mk0 R' (by rw [st_non hk ha];exact ⟨c.S.e,c.S.a,c.S.n0,c.S.m0⟩),fun b' hb=>by cases hb;exact c.mu hlt rfl (by decide)⟩
theorem h8p0x11_ok {E0 E:Env} {i b:Nat} (c:Cx E0 E i false b):VOkX (pts8 Try.prog) ct8 I8 mu8 (some b) E0 E h8p0x11:=by
 intro hf
 have hlt:=c.lt (fat hf 11 rfl)
 have hk:=c.kd (n:=1) (fat hf 3 rfl)
 have q0:(SB.eq (rsE 5) (.c 0)).den E=false:=fat hf 2 rfl
 have q1:(SB.v 101).den E=false:=fat hf 1 rfl
 have q2:(SB.eq (.v 138) (.c 0)).den E=true:=fat hf 0 rfl
 have ha:asks (sAt (E0.a 5) i) (tmA (E0.a 5) i) (onA (E0.a 5) i)=false:=by rw [c.asks];simp [q0,q1,q2]
 refine ⟨⟨_,rfl,.inr ⟨rfl,rfl⟩⟩,fun o=>?_⟩
 have R':R8 E0 (E.put zds [] zd4 o) (i+1):=c.fin hlt (.c false) (.c false) (.c 0) (.c 0) (.c 0) (.c 0) (.c 0) (.c 0) (.v 20) (c.R.ag.put o) rfl rfl (say_non hk ha) rfl (colL_f (frA_n ha)).symm rfl (fun u hu=>by rw [colL_f (frA_n ha)] at hu;exact absurd hu (Nat.not_lt_zero _))
 exact ⟨I8.mk0 R' (by rw [st_non hk ha];exact ⟨c.S.e,c.S.a,c.S.n0,c.S.m0⟩),fun b' hb=>by cases hb;exact c.mu hlt rfl (by decide)⟩
theorem h8p0x12_ok {E0 E:Env} {i b:Nat} (c:Cx E0 E i false b):VOkX (pts8 Try.prog) ct8 I8 mu8 (some b) E0 E h8p0x12:=by
 intro hf
 have hlt:=c.lt (fat hf 12 rfl)
 have hk:=c.kd (n:=1) (fat hf 4 rfl)
 have q0:(SB.eq (rsE 5) (.c 0)).den E=false:=fat hf 3 rfl
 have q1:(SB.v 101).den E=false:=fat hf 2 rfl
 have q2:(SB.eq (.v 138) (.c 0)).den E=false:=fat hf 1 rfl
 have q3:(SB.lt (rsE 3) (.v 138)).den E=true:=fat hf 0 rfl
 have ha:asks (sAt (E0.a 5) i) (tmA (E0.a 5) i) (onA (E0.a 5) i)=false:=by rw [c.asks];simp [q0,q1,q2,q3]
 refine ⟨⟨_,rfl,.inr ⟨rfl,rfl⟩⟩,fun o=>?_⟩
 have R':R8 E0 (E.put zds [] zd4 o) (i+1):=c.fin hlt (.c false) (.c false) (.c 0) (.c 0) (.c 0) (.c 0) (.c 0) (.c 0) (.v 20) (c.R.ag.put o) rfl rfl (say_non hk ha) rfl (colL_f (frA_n ha)).symm rfl (fun u hu=>by rw [colL_f (frA_n ha)] at hu;exact absurd hu (Nat.not_lt_zero _))
 exact ⟨I8.mk0 R' (by rw [st_non hk ha];exact ⟨c.S.e,c.S.a,c.S.n0,c.S.m0⟩),fun b' hb=>by cases hb;exact c.mu hlt rfl (by decide)⟩
theorem h8p0x13_ok {E0 E:Env} {i b:Nat} (c:Cx E0 E i false b):VOkX (pts8 Try.prog) ct8 I8 mu8 (some b) E0 E h8p0x13:=by
 intro hf
 exact c.dead1 (fat hf 0 rfl)
theorem h8p0x14_ok {E0 E:Env} {i b:Nat} (c:Cx E0 E i false b):VOkX (pts8 Try.prog) ct8 I8 mu8 (some b) E0 E h8p0x14:=by
 intro hf
 have hlt:=c.lt (fat hf 14 rfl)
 have hk:=c.kd (n:=1) (fat hf 6 rfl)
 have q0:(SB.v 100).den E=true:=fat hf 0 rfl
 have q1:(SB.eq (rsE 5) (.c 0)).den E=false:=fat hf 5 rfl
 have q2:(SB.v 101).den E=false:=fat hf 4 rfl
 have q3:(SB.eq (.v 138) (.c 0)).den E=false:=fat hf 3 rfl
 have q4:(SB.lt (rsE 3) (.v 138)).den E=false:=fat hf 2 rfl
 have ha:asks (sAt (E0.a 5) i) (tmA (E0.a 5) i) (onA (E0.a 5) i)=true:=by rw [c.asks];simp [q0,q1,q2,q3,q4]
 have hfr:=frA_t hk ha
 have hnw:(ofE false E).nw=true:=q0
 have hn1:=c.I.nw hnw
 have hn2:=c.I.n1
 have hne:(sAt (E0.a 5) i).n≠0:=by
  have h1:(sAt (E0.a 5) i).n=(ofE false E).n:=(congrArg St.n c.S.e).trans rfl
  omega
 refine ⟨⟨_,rfl,.inl ⟨rfl,rfl⟩⟩,fun o=>?_⟩
 refine ⟨I8.mk2 (q:=0) (E:=(E.put zd2 zbt zd3 o)) ⟨c.R.ag.put o,c.R.i110,c.R.le,c.R.A,c.R.L,c.R.C⟩ (S8.of (by rw [st_fr hk ha,c.S.full hne];exact h8p0x14_st c.hE o) c.S.n0 (fun _=>c.S.n0)) ⟨hlt,hfr,?_,rfl,c.S.n0,fun t ht=>absurd ht (Nat.not_lt_zero _)⟩,fun b' hb=>?_⟩
 ·unfold dlC
  rw [hfr,if_pos rfl,c.S.e,←c.tm];rfl
 ·cases hb
  rw [c.b]
  show (E0.i 60 - E.i 110).toNat*200+(E.i 100 - 0).toNat<_
  have h1:(E.i 100).toNat≤51:=hn2
  omega
theorem h8p0x15_ok {E0 E:Env} {i b:Nat} (c:Cx E0 E i false b):VOkX (pts8 Try.prog) ct8 I8 mu8 (some b) E0 E h8p0x15:=by
 intro hf
 have hlt:=c.lt (fat hf 14 rfl)
 have hk:=c.kd (n:=1) (fat hf 6 rfl)
 have q0:(SB.v 100).den E=false:=fat hf 0 rfl
 have q1:(SB.eq (rsE 5) (.c 0)).den E=false:=fat hf 5 rfl
 have q2:(SB.v 101).den E=false:=fat hf 4 rfl
 have q3:(SB.eq (.v 138) (.c 0)).den E=false:=fat hf 3 rfl
 have q4:(SB.lt (rsE 3) (.v 138)).den E=false:=fat hf 2 rfl
 have ha:asks (sAt (E0.a 5) i) (tmA (E0.a 5) i) (onA (E0.a 5) i)=false:=by rw [c.asks];simp [q0,q1,q2,q3,q4]
 refine ⟨⟨_,rfl,.inr ⟨rfl,rfl⟩⟩,fun o=>?_⟩
 have R':R8 E0 (E.put zds [] zd4 o) (i+1):=c.fin hlt (.c false) (.c false) (.c 0) (.c 0) (.c 0) (.c 0) (.c 0) (.c 0) (.v 20) (c.R.ag.put o) rfl rfl (say_non hk ha) rfl (colL_f (frA_n ha)).symm rfl (fun u hu=>by rw [colL_f (frA_n ha)] at hu;exact absurd hu (Nat.not_lt_zero _))
 exact ⟨I8.mk0 R' (by rw [st_non hk ha];exact ⟨c.S.e,c.S.a,c.S.n0,c.S.m0⟩),fun b' hb=>by cases hb;exact c.mu hlt rfl (by decide)⟩
theorem h8p0x16_ok {E0 E:Env} {i b:Nat} (c:Cx E0 E i false b):VOkX (pts8 Try.prog) ct8 I8 mu8 (some b) E0 E h8p0x16:=by
 intro hf
 have hlt:=c.lt (fat hf 10 rfl)
 have hk:=c.kd (n:=2) (fat hf 1 rfl)
 have h1:(rsE 2).den E≤E.i 136:=le_t.1 (fat hf 0 rfl)
 have hs:sAt (E0.a 5) (i+1)=sAt (E0.a 5) i:=by
  rw [st_cut hk];unfold cutS
  rw [if_pos]
  rw [←c.pn,show (sAt (E0.a 5) i).ig=E.i 136 from congrArg St.ig c.S.e];exact h1
 refine ⟨⟨_,rfl,.inr ⟨rfl,rfl⟩⟩,fun o=>?_⟩
 have R':R8 E0 (E.put zds [] zd4 o) (i+1):=c.fin hlt (.c false) (.c false) (.c 0) (.c 0) (.c 0) (.c 0) (.c 0) (.c 0) (.v 20) (c.R.ag.put o) rfl rfl (say_cut hk) rfl (colL_f (frA_f (by rw [hk];decide))).symm rfl (fun u hu=>by rw [colL_f (frA_f (by rw [hk];decide))] at hu;exact absurd hu (Nat.not_lt_zero _))
 exact ⟨I8.mk0 R' (by rw [hs];exact ⟨c.S.e,c.S.a,c.S.n0,c.S.m0⟩),fun b' hb=>by cases hb;exact c.mu hlt rfl (by decide)⟩
theorem h8p0x17_ok {E0 E:Env} {i b:Nat} (c:Cx E0 E i false b):VOkX (pts8 Try.prog) ct8 I8 mu8 (some b) E0 E h8p0x17:=by
 intro hf
 exact c.dead2 (fat hf 0 rfl) (fat hf 1 rfl)
theorem h8p0x18_ok {E0 E:Env} {i b:Nat} (c:Cx E0 E i false b):VOkX (pts8 Try.prog) ct8 I8 mu8 (some b) E0 E h8p0x18:=by
 intro hf
 have hlt:=c.lt (fat hf 14 rfl)
 have hk:=c.kd (n:=2) (fat hf 5 rfl)
 have h1:E.i 136<(rsE 2).den E:=le_f.1 (fat hf 4 rfl)
 have hn:(0:Int)≤h8p0e44.den E:=le_t.1 (fat hf 0 rfl)
 have hne:(sAt (E0.a 5) i).n≠0:=by
  have h2:(sAt (E0.a 5) i).n=(ofE false E).n:=(congrArg St.n c.S.e).trans rfl
  have h3:=c.P.S.ig i hlt hk
  have h4:=c.pn
  have h5:0≤E.i 136:=c.I.ig0
  obtain ⟨q,hq,_⟩:=(c.I.t (by omega)).2
  omega
 refine ⟨⟨_,rfl,.inr ⟨rfl,rfl⟩⟩,fun o=>?_⟩
 have R':R8 E0 (E.put zd5 [] zd6 o) (i+1):=c.fin hlt (.c false) (.c false) (.c 0) (.c 0) (.c 0) (.c 0) (.c 0) (.c 0) (.v 20) (c.R.ag.put o) rfl rfl (say_cut hk) rfl (colL_f (frA_f (by rw [hk];decide))).symm rfl (fun u hu=>by rw [colL_f (frA_f (by rw [hk];decide))] at hu;exact absurd hu (Nat.not_lt_zero _))
 exact ⟨I8.mk0 R' (S8.of (by rw [st_cut hk,c.S.full hne,←c.pn];exact h8p0x18_st c.hE o h1) (by show 0≤h8p0e44.den E;omega) (fun h=>(by cases h))),fun b' hb=>by cases hb;exact c.mu hlt rfl (by decide)⟩
theorem h8p0x19_ok {E0 E:Env} {i b:Nat} (c:Cx E0 E i false b):VOkX (pts8 Try.prog) ct8 I8 mu8 (some b) E0 E h8p0x19:=by
 intro hf
 have hlt:=c.lt (fat hf 11 rfl)
 have hk:=c.kd (n:=3) (fat hf 1 rfl)
 have hsy:=say_dup hk
 rw [c.old1 (fat hf 0 rfl)] at hsy
 refine ⟨⟨_,rfl,.inr ⟨rfl,rfl⟩⟩,fun o=>?_⟩
 have R':R8 E0 (E.put zds [] zd7 o) (i+1):=c.fin hlt (.c true) (.c false) (.c 0) (.c 0) (.c 0) (.c 0) (.c 0) (.c 0) (.v 20) (c.R.ag.put o) rfl rfl (hsy) rfl (colL_f (frA_f (by rw [hk];decide))).symm rfl (fun u hu=>by rw [colL_f (frA_f (by rw [hk];decide))] at hu;exact absurd hu (Nat.not_lt_zero _))
 exact ⟨I8.mk0 R' (by rw [st_else (by rw [hk];decide) (by rw [hk];decide) (by rw [hk];decide)];exact ⟨c.S.e,c.S.a,c.S.n0,c.S.m0⟩),fun b' hb=>by cases hb;exact c.mu hlt rfl (by decide)⟩
theorem h8p0x20_ok {E0 E:Env} {i b:Nat} (c:Cx E0 E i false b):VOkX (pts8 Try.prog) ct8 I8 mu8 (some b) E0 E h8p0x20:=by
 intro hf
 have hlt:=c.lt (fat hf 11 rfl)
 have hk:=c.kd (n:=3) (fat hf 1 rfl)
 have hsy:=say_dup hk
 rw [c.old3 (fat hf 0 rfl)] at hsy
 refine ⟨⟨_,rfl,.inr ⟨rfl,rfl⟩⟩,fun o=>?_⟩
 have R':R8 E0 (E.put zds [] zd8 o) (i+1):=c.fin hlt (.ap 6 (.a (.v 100) (.i (.v 100) (.i h8p0e10 .nil)))) (.c false) (.c 0) (.c 0) (.c 0) (.c 0) (.c 0) (.c 0) (.v 20) (c.R.ag.put o) rfl rfl (hsy) rfl (colL_f (frA_f (by rw [hk];decide))).symm rfl (fun u hu=>by rw [colL_f (frA_f (by rw [hk];decide))] at hu;exact absurd hu (Nat.not_lt_zero _))
 exact ⟨I8.mk0 R' (by rw [st_else (by rw [hk];decide) (by rw [hk];decide) (by rw [hk];decide)];exact ⟨c.S.e,c.S.a,c.S.n0,c.S.m0⟩),fun b' hb=>by cases hb;exact c.mu hlt rfl (by decide)⟩
theorem h8p0x21_ok {E0 E:Env} {i b:Nat} (c:Cx E0 E i false b):VOkX (pts8 Try.prog) ct8 I8 mu8 (some b) E0 E h8p0x21:=by
 intro hf
 have hlt:=c.lt (fat hf 11 rfl)
 have hk:=c.kd (n:=4) (fat hf 0 rfl)
 have hsy:=say_al hk
 rw [show (sAt (E0.a 5) i).al=E.i 138 from congrArg St.al c.S.e] at hsy
 refine ⟨⟨_,rfl,.inr ⟨rfl,rfl⟩⟩,fun o=>?_⟩
 have R':R8 E0 (E.put zds [] zd9 o) (i+1):=c.fin hlt (.c false) (.c false) (.c 0) (.v 138) (.c 0) (.c 0) (.c 0) (.c 0) (.v 20) (c.R.ag.put o) rfl rfl (hsy) rfl (colL_f (frA_f (by rw [hk];decide))).symm rfl (fun u hu=>by rw [colL_f (frA_f (by rw [hk];decide))] at hu;exact absurd hu (Nat.not_lt_zero _))
 exact ⟨I8.mk0 R' (by rw [st_else (by rw [hk];decide) (by rw [hk];decide) (by rw [hk];decide)];exact ⟨c.S.e,c.S.a,c.S.n0,c.S.m0⟩),fun b' hb=>by cases hb;exact c.mu hlt rfl (by decide)⟩
theorem h8p0x22_ok {E0 E:Env} {i b:Nat} (c:Cx E0 E i false b):VOkX (pts8 Try.prog) ct8 I8 mu8 (some b) E0 E h8p0x22:=by
 intro hf
 have hlt:=c.lt (fat hf 11 rfl)
 have n0:=c.nk (n:=0) (fat hf 4 rfl)
 have n1:=c.nk (n:=1) (fat hf 3 rfl)
 have n2:=c.nk (n:=2) (fat hf 2 rfl)
 have n3:=c.nk (n:=3) (fat hf 1 rfl)
 have n4:=c.nk (n:=4) (fat hf 0 rfl)
 have h3:=c.P.S.kd i hlt
 omega
theorem h8p0x23_ok {E0 E:Env} {i b:Nat} (c:Cx E0 E i false b):VOkX (pts8 Try.prog) ct8 I8 mu8 (some b) E0 E h8p0x23:=by
 intro hf
 have hlt:=c.lt (fat hf 6 rfl)
 have h1:=le_f.1 (fat hf 0 rfl)
 have h2:=c.tm
 have h3:=c.P.S.tm i hlt
 have h4:(rsE 3).den E=h8p0e13.den E:=rfl
 simp only [d_c] at h1
 omega
theorem h8p0x24_ok {E0 E:Env} {i b:Nat} (c:Cx E0 E i false b):VOkX (pts8 Try.prog) ct8 I8 mu8 (some b) E0 E h8p0x24:=by
 intro hf
 have hlt:=c.lt (fat hf 5 rfl)
 have h1:=le_f.1 (fat hf 0 rfl)
 have h2:=c.tm
 have h3:=c.P.S.tm i hlt
 have h4:(rsE 3).den E=h8p0e13.den E:=rfl
 simp only [d_c] at h1
 omega
theorem h8p0x25_ok {E0 E:Env} {i b:Nat} (c:Cx E0 E i false b):VOkX (pts8 Try.prog) ct8 I8 mu8 (some b) E0 E h8p0x25:=by
 intro hf
 have hlt:=c.lt (fat hf 4 rfl)
 have h1:=le_f.1 (fat hf 0 rfl)
 have h2:=c.pn
 have h3:=c.P.S.pn i hlt
 have h4:(rsE 2).den E=h8p0e10.den E:=rfl
 simp only [d_c] at h1
 omega
theorem h8p0x26_ok {E0 E:Env} {i b:Nat} (c:Cx E0 E i false b):VOkX (pts8 Try.prog) ct8 I8 mu8 (some b) E0 E h8p0x26:=by
 intro hf
 have hlt:=c.lt (fat hf 3 rfl)
 have h1:=le_f.1 (fat hf 0 rfl)
 have h2:=c.pn
 have h3:=c.P.S.pn i hlt
 have h4:(rsE 2).den E=h8p0e10.den E:=rfl
 simp only [d_c] at h1
 omega
theorem h8p0x27_ok {E0 E:Env} {i b:Nat} (c:Cx E0 E i false b):VOkX (pts8 Try.prog) ct8 I8 mu8 (some b) E0 E h8p0x27:=by
 intro hf
 have hlt:=c.lt (fat hf 2 rfl)
 have h1:=le_f.1 (fat hf 0 rfl)
 have h2:=c.ec
 have h3:=c.P.S.ec i hlt
 have h4:(rsE 1).den E=h8p0e15.den E:=rfl
 simp only [d_c] at h1
 omega
theorem h8p0x28_ok {E0 E:Env} {i b:Nat} (c:Cx E0 E i false b):VOkX (pts8 Try.prog) ct8 I8 mu8 (some b) E0 E h8p0x28:=by
 intro hf
 have hlt:=c.lt (fat hf 1 rfl)
 have h1:=le_f.1 (fat hf 0 rfl)
 have h2:=c.ec
 have h3:=c.P.S.ec i hlt
 have h4:(rsE 1).den E=h8p0e15.den E:=rfl
 simp only [d_c] at h1
 omega
theorem h8p0x29_ok {E0 E:Env} {i b:Nat} (c:Cx E0 E i false b):VOkX (pts8 Try.prog) ct8 I8 mu8 (some b) E0 E h8p0x29:=by
 intro hf
 have h1:E.i 60≤E.i 110:=le_of_not_lt' (fat hf 0 rfl)
 have q60:=c.R.ag.i 60 (by decide)
 have hle:=c.R.le
 have hi:=c.R.i110
 have hn0:=c.P.n0
 have hin:i=(E0.i 60).toNat:=by omega
 exact out8 c.h0 c.hE c.R hin hn0
theorem h8p0ls_ok {E0 E:Env} {i b:Nat} (c:Cx E0 E i false b): ∀x∈h8p0ls,VOkX (pts8 Try.prog) ct8 I8 mu8 (some b) E0 E x:=by
 intro x hx
 unfold h8p0ls at hx
 simp only [List.mem_cons,List.not_mem_nil,or_false] at hx
 rcases hx with rfl|rfl|rfl|rfl|rfl|rfl|rfl|rfl|rfl|rfl|rfl|rfl|rfl|rfl|rfl|rfl|rfl|rfl|rfl|rfl|rfl|rfl|rfl|rfl|rfl|rfl|rfl|rfl|rfl|rfl
 ·exact h8p0x0_ok c
 ·exact h8p0x1_ok c
 ·exact h8p0x2_ok c
 ·exact h8p0x3_ok c
 ·exact h8p0x4_ok c
 ·exact h8p0x5_ok c
 ·exact h8p0x6_ok c
 ·exact h8p0x7_ok c
 ·exact h8p0x8_ok c
 ·exact h8p0x9_ok c
 ·exact h8p0x10_ok c
 ·exact h8p0x11_ok c
 ·exact h8p0x12_ok c
 ·exact h8p0x13_ok c
 ·exact h8p0x14_ok c
 ·exact h8p0x15_ok c
 ·exact h8p0x16_ok c
 ·exact h8p0x17_ok c
 ·exact h8p0x18_ok c
 ·exact h8p0x19_ok c
 ·exact h8p0x20_ok c
 ·exact h8p0x21_ok c
 ·exact h8p0x22_ok c
 ·exact h8p0x23_ok c
 ·exact h8p0x24_ok c
 ·exact h8p0x25_ok c
 ·exact h8p0x26_ok c
 ·exact h8p0x27_ok c
 ·exact h8p0x28_ok c
 ·exact h8p0x29_ok c
theorem h8p1x2_st {E:Env} (hE:E.fn=fns) (o:Nat→Value):rcvB (ofE true E).k (ofE true E) ((rsE 2).den E) ((rsE 1).den E) ((rsE 3).den E) ((SB.eq (rsE 4) (.c 0)).den E) ((rsE 2).den E)=ofE true (E.put zea zeb zdx o):=by
 obtain ⟨ii,bb,aa,oo,fn⟩:=E
 have:fn=fns:=hE
 subst this;rfl
theorem h8p1x3_st {E:Env} (hE:E.fn=fns) (o:Nat→Value):rcvB (ofE true E).k (ofE true E) ((rsE 2).den E) ((rsE 1).den E) ((rsE 3).den E) ((SB.eq (rsE 4) (.c 0)).den E) ((rsE 2).den E)=ofE true (E.put zea zeb zdx o):=by
 obtain ⟨ii,bb,aa,oo,fn⟩:=E
 have:fn=fns:=hE
 subst this;rfl
theorem h8p1x4_st {E:Env} (hE:E.fn=fns) (o:Nat→Value):rcvB (ofE true E).k (ofE true E) ((rsE 2).den E) ((rsE 1).den E) ((rsE 3).den E) ((SB.eq (rsE 4) (.c 0)).den E) (E.i 139)=ofE true (E.put zec zeb zdx o):=by
 obtain ⟨ii,bb,aa,oo,fn⟩:=E
 have:fn=fns:=hE
 subst this;rfl
theorem h8p1x6_st {E:Env} (hE:E.fn=fns) (o:Nat→Value):fram (ofE true E)=ofE true (E.put zd2 zbt zd3 o):=by
 obtain ⟨ii,bb,aa,oo,fn⟩:=E
 have:fn=fns:=hE
 subst this;rfl
theorem h8p1x9_st {E:Env} (hE:E.fn=fns) (o:Nat→Value):fram (ofE true E)=ofE true (E.put zd2 zbt zd3 o):=by
 obtain ⟨ii,bb,aa,oo,fn⟩:=E
 have:fn=fns:=hE
 subst this;rfl
theorem h8p1x14_st {E:Env} (hE:E.fn=fns) (o:Nat→Value):fram (ofE true E)=ofE true (E.put zd2 zbt zd3 o):=by
 obtain ⟨ii,bb,aa,oo,fn⟩:=E
 have:fn=fns:=hE
 subst this;rfl
theorem h8p1x18_st {E:Env} (hE:E.fn=fns) (o:Nat→Value) (h:E.i 136<(rsE 2).den E):cutS (ofE true E) ((rsE 2).den E)=ofE true (E.put zd5 [] zd6 o):=by
 unfold cutS
 rw [if_neg (show¬ (rsE 2).den E≤(ofE true E).ig from Int.not_le.2 h)]
 obtain ⟨ii,bb,aa,oo,fn⟩:=E
 have:fn=fns:=hE
 subst this;rfl
theorem h8p1x0_ok {E0 E:Env} {i b:Nat} (c:Cx E0 E i true b):VOkX (pts8 Try.prog) ct8 I8 mu8 (some b) E0 E h8p1x0:=by
 intro hf
 have hlt:=c.lt (fat hf 8 rfl)
 have hk:=c.kd (n:=0) (fat hf 1 rfl)
 have ho:=c.old1 (fat hf 0 rfl)
 refine ⟨⟨_,rfl,.inr ⟨rfl,rfl⟩⟩,fun o=>?_⟩
 have R':R8 E0 (E.put zds [] zdt o) (i+1):=c.fin hlt (.c false) (.c true) (.c 0) (.c 0) (.c 0) (.c 0) (.c 0) (.c 0) (.v 20) (c.R.ag.put o) rfl rfl (say_old hk ho) rfl (colL_f (frA_f (by rw [hk];decide))).symm rfl (fun u hu=>by rw [colL_f (frA_f (by rw [hk];decide))] at hu;exact absurd hu (Nat.not_lt_zero _))
 exact ⟨I8.mk1 R' (by rw [st_old hk ho];exact ⟨c.S.e,c.S.a,c.S.n0,c.S.m0⟩),fun b' hb=>by cases hb;exact c.mu hlt rfl (by decide)⟩
theorem h8p1x1_ok {E0 E:Env} {i b:Nat} (c:Cx E0 E i true b):VOkX (pts8 Try.prog) ct8 I8 mu8 (some b) E0 E h8p1x1:=by
 intro hf
 have hlt:=c.lt (fat hf 9 rfl)
 have hk:=c.kd (n:=0) (fat hf 2 rfl)
 have ho:=c.old2 (fat hf 0 rfl)
 refine ⟨⟨_,rfl,.inr ⟨rfl,rfl⟩⟩,fun o=>?_⟩
 have R':R8 E0 (E.put zds [] zdt o) (i+1):=c.fin hlt (.c false) (.c true) (.c 0) (.c 0) (.c 0) (.c 0) (.c 0) (.c 0) (.v 20) (c.R.ag.put o) rfl rfl (say_old hk ho) rfl (colL_f (frA_f (by rw [hk];decide))).symm rfl (fun u hu=>by rw [colL_f (frA_f (by rw [hk];decide))] at hu;exact absurd hu (Nat.not_lt_zero _))
 exact ⟨I8.mk1 R' (by rw [st_old hk ho];exact ⟨c.S.e,c.S.a,c.S.n0,c.S.m0⟩),fun b' hb=>by cases hb;exact c.mu hlt rfl (by decide)⟩
theorem h8p1x2_ok {E0 E:Env} {i b:Nat} (c:Cx E0 E i true b):VOkX (pts8 Try.prog) ct8 I8 mu8 (some b) E0 E h8p1x2:=by
 intro hf
 have hlt:=c.lt (fat hf 13 rfl)
 have hk:=c.kd (n:=0) (fat hf 6 rfl)
 have ho:=(c.old3 (fat hf 5 rfl)).trans (fat hf 4 rfl)
 have hn:(1:Int)≤h8p0e16.den E:=le_t.1 (fat hf 0 rfl)
 have hl:(if (ofE true E).lw= -1∨(rsE 2).den E<(ofE true E).lw then (rsE 2).den E else (ofE true E).lw)=(rsE 2).den E:=if_pos (.inl (eq_t.1 (fat hf 3 rfl)))
 refine ⟨⟨_,rfl,.inr ⟨rfl,rfl⟩⟩,fun o=>?_⟩
 have R':R8 E0 (E.put zea zeb zdx o) (i+1):=c.fin hlt (.c false) (.c false) (.c 0) (.c 0) (.c 0) (.c 0) (.c 0) (.c 0) (.v 20) (c.R.ag.put o) rfl rfl (say_new hk ho) rfl (colL_f (frA_f (by rw [hk];decide))).symm rfl (fun u hu=>by rw [colL_f (frA_f (by rw [hk];decide))] at hu;exact absurd hu (Nat.not_lt_zero _))
 exact ⟨I8.mk1 R' (S8.of (by rw [st_new hk ho,c.S.rcv,c.el,←c.pn,←c.ec,←c.tm,rcv_b rfl hl];exact h8p1x2_st c.hE o) (by show 0≤h8p0e16.den E;omega) (c.S.m0)),fun b' hb=>by cases hb;exact c.mu hlt rfl (by decide)⟩
theorem h8p1x3_ok {E0 E:Env} {i b:Nat} (c:Cx E0 E i true b):VOkX (pts8 Try.prog) ct8 I8 mu8 (some b) E0 E h8p1x3:=by
 intro hf
 have hlt:=c.lt (fat hf 14 rfl)
 have hk:=c.kd (n:=0) (fat hf 7 rfl)
 have ho:=(c.old3 (fat hf 6 rfl)).trans (fat hf 5 rfl)
 have hn:(1:Int)≤h8p0e16.den E:=le_t.1 (fat hf 0 rfl)
 have hl:(if (ofE true E).lw= -1∨(rsE 2).den E<(ofE true E).lw then (rsE 2).den E else (ofE true E).lw)=(rsE 2).den E:=if_pos (.inr (lt_t.1 (fat hf 3 rfl)))
 refine ⟨⟨_,rfl,.inr ⟨rfl,rfl⟩⟩,fun o=>?_⟩
 have R':R8 E0 (E.put zea zeb zdx o) (i+1):=c.fin hlt (.c false) (.c false) (.c 0) (.c 0) (.c 0) (.c 0) (.c 0) (.c 0) (.v 20) (c.R.ag.put o) rfl rfl (say_new hk ho) rfl (colL_f (frA_f (by rw [hk];decide))).symm rfl (fun u hu=>by rw [colL_f (frA_f (by rw [hk];decide))] at hu;exact absurd hu (Nat.not_lt_zero _))
 exact ⟨I8.mk1 R' (S8.of (by rw [st_new hk ho,c.S.rcv,c.el,←c.pn,←c.ec,←c.tm,rcv_b rfl hl];exact h8p1x3_st c.hE o) (by show 0≤h8p0e16.den E;omega) (c.S.m0)),fun b' hb=>by cases hb;exact c.mu hlt rfl (by decide)⟩
theorem h8p1x4_ok {E0 E:Env} {i b:Nat} (c:Cx E0 E i true b):VOkX (pts8 Try.prog) ct8 I8 mu8 (some b) E0 E h8p1x4:=by
 intro hf
 have hlt:=c.lt (fat hf 14 rfl)
 have hk:=c.kd (n:=0) (fat hf 7 rfl)
 have ho:=(c.old3 (fat hf 6 rfl)).trans (fat hf 5 rfl)
 have hn:(1:Int)≤h8p0e16.den E:=le_t.1 (fat hf 0 rfl)
 have hl:(if (ofE true E).lw= -1∨(rsE 2).den E<(ofE true E).lw then (rsE 2).den E else (ofE true E).lw)=E.i 139:=if_neg (fun h=>h.elim (eq_f.1 (fat hf 4 rfl)) (Int.not_lt.2 (lt_f.1 (fat hf 3 rfl))))
 refine ⟨⟨_,rfl,.inr ⟨rfl,rfl⟩⟩,fun o=>?_⟩
 have R':R8 E0 (E.put zec zeb zdx o) (i+1):=c.fin hlt (.c false) (.c false) (.c 0) (.c 0) (.c 0) (.c 0) (.c 0) (.c 0) (.v 20) (c.R.ag.put o) rfl rfl (say_new hk ho) rfl (colL_f (frA_f (by rw [hk];decide))).symm rfl (fun u hu=>by rw [colL_f (frA_f (by rw [hk];decide))] at hu;exact absurd hu (Nat.not_lt_zero _))
 exact ⟨I8.mk1 R' (S8.of (by rw [st_new hk ho,c.S.rcv,c.el,←c.pn,←c.ec,←c.tm,rcv_b rfl hl];exact h8p1x4_st c.hE o) (by show 0≤h8p0e16.den E;omega) (c.S.m0)),fun b' hb=>by cases hb;exact c.mu hlt rfl (by decide)⟩
theorem h8p1x5_ok {E0 E:Env} {i b:Nat} (c:Cx E0 E i true b):VOkX (pts8 Try.prog) ct8 I8 mu8 (some b) E0 E h8p1x5:=by
 intro hf
 exact c.dead1 (fat hf 0 rfl)
theorem h8p1x6_ok {E0 E:Env} {i b:Nat} (c:Cx E0 E i true b):VOkX (pts8 Try.prog) ct8 I8 mu8 (some b) E0 E h8p1x6:=by
 intro hf
 have hlt:=c.lt (fat hf 11 rfl)
 have hk:=c.kd (n:=1) (fat hf 3 rfl)
 have q0:(SB.v 100).den E=true:=fat hf 0 rfl
 have q1:(SB.eq (rsE 5) (.c 0)).den E=true:=fat hf 2 rfl
 have ha:asks (sAt (E0.a 5) i) (tmA (E0.a 5) i) (onA (E0.a 5) i)=true:=by rw [c.asks];simp [q0,q1]
 have hfr:=frA_t hk ha
 have hnw:(ofE true E).nw=true:=q0
 have hn1:=c.I.nw hnw
 have hn2:=c.I.n1
 have hne:(sAt (E0.a 5) i).n≠0:=by
  have h1:(sAt (E0.a 5) i).n=(ofE true E).n:=(congrArg St.n c.S.e).trans rfl
  omega
 refine ⟨⟨_,rfl,.inl ⟨rfl,rfl⟩⟩,fun o=>?_⟩
 refine ⟨I8.mk2 (q:=0) (E:=(E.put zd2 zbt zd3 o)) ⟨c.R.ag.put o,c.R.i110,c.R.le,c.R.A,c.R.L,c.R.C⟩ (S8.of (by rw [st_fr hk ha,c.S.full hne];exact h8p1x6_st c.hE o) c.S.n0 (fun _=>c.S.n0)) ⟨hlt,hfr,?_,rfl,c.S.n0,fun t ht=>absurd ht (Nat.not_lt_zero _)⟩,fun b' hb=>?_⟩
 ·unfold dlC
  rw [hfr,if_pos rfl,c.S.e,←c.tm];rfl
 ·cases hb
  rw [c.b]
  show (E0.i 60 - E.i 110).toNat*200+(E.i 100 - 0).toNat<_
  have h1:(E.i 100).toNat≤51:=hn2
  omega
theorem h8p1x7_ok {E0 E:Env} {i b:Nat} (c:Cx E0 E i true b):VOkX (pts8 Try.prog) ct8 I8 mu8 (some b) E0 E h8p1x7:=by
 intro hf
 have hlt:=c.lt (fat hf 11 rfl)
 have hk:=c.kd (n:=1) (fat hf 3 rfl)
 have q0:(SB.v 100).den E=false:=fat hf 0 rfl
 have q1:(SB.eq (rsE 5) (.c 0)).den E=true:=fat hf 2 rfl
 have ha:asks (sAt (E0.a 5) i) (tmA (E0.a 5) i) (onA (E0.a 5) i)=false:=by rw [c.asks];simp [q0,q1]
 refine ⟨⟨_,rfl,.inr ⟨rfl,rfl⟩⟩,fun o=>?_⟩
 have R':R8 E0 (E.put zds [] zd4 o) (i+1):=c.fin hlt (.c false) (.c false) (.c 0) (.c 0) (.c 0) (.c 0) (.c 0) (.c 0) (.v 20) (c.R.ag.put o) rfl rfl (say_non hk ha) rfl (colL_f (frA_n ha)).symm rfl (fun u hu=>by rw [colL_f (frA_n ha)] at hu;exact absurd hu (Nat.not_lt_zero _))
 exact ⟨I8.mk1 R' (by rw [st_non hk ha];exact ⟨c.S.e,c.S.a,c.S.n0,c.S.m0⟩),fun b' hb=>by cases hb;exact c.mu hlt rfl (by decide)⟩
theorem h8p1x8_ok {E0 E:Env} {i b:Nat} (c:Cx E0 E i true b):VOkX (pts8 Try.prog) ct8 I8 mu8 (some b) E0 E h8p1x8:=by
 intro hf
 exact c.dead1 (fat hf 0 rfl)
theorem h8p1x9_ok {E0 E:Env} {i b:Nat} (c:Cx E0 E i true b):VOkX (pts8 Try.prog) ct8 I8 mu8 (some b) E0 E h8p1x9:=by
 intro hf
 have hlt:=c.lt (fat hf 12 rfl)
 have hk:=c.kd (n:=1) (fat hf 4 rfl)
 have q0:(SB.v 100).den E=true:=fat hf 0 rfl
 have q1:(SB.eq (rsE 5) (.c 0)).den E=false:=fat hf 3 rfl
 have q2:(SB.v 101).den E=true:=fat hf 2 rfl
 have ha:asks (sAt (E0.a 5) i) (tmA (E0.a 5) i) (onA (E0.a 5) i)=true:=by rw [c.asks];simp [q0,q1,q2]
 have hfr:=frA_t hk ha
 have hnw:(ofE true E).nw=true:=q0
 have hn1:=c.I.nw hnw
 have hn2:=c.I.n1
 have hne:(sAt (E0.a 5) i).n≠0:=by
  have h1:(sAt (E0.a 5) i).n=(ofE true E).n:=(congrArg St.n c.S.e).trans rfl
  omega
 refine ⟨⟨_,rfl,.inl ⟨rfl,rfl⟩⟩,fun o=>?_⟩
 refine ⟨I8.mk2 (q:=0) (E:=(E.put zd2 zbt zd3 o)) ⟨c.R.ag.put o,c.R.i110,c.R.le,c.R.A,c.R.L,c.R.C⟩ (S8.of (by rw [st_fr hk ha,c.S.full hne];exact h8p1x9_st c.hE o) c.S.n0 (fun _=>c.S.n0)) ⟨hlt,hfr,?_,rfl,c.S.n0,fun t ht=>absurd ht (Nat.not_lt_zero _)⟩,fun b' hb=>?_⟩
 ·unfold dlC
  rw [hfr,if_pos rfl,c.S.e,←c.tm];rfl
 ·cases hb
  rw [c.b]
  show (E0.i 60 - E.i 110).toNat*200+(E.i 100 - 0).toNat<_
  have h1:(E.i 100).toNat≤51:=hn2
  omega
theorem h8p1x10_ok {E0 E:Env} {i b:Nat} (c:Cx E0 E i true b):VOkX (pts8 Try.prog) ct8 I8 mu8 (some b) E0 E h8p1x10:=by
 intro hf
 have hlt:=c.lt (fat hf 12 rfl)
 have hk:=c.kd (n:=1) (fat hf 4 rfl)
 have q0:(SB.v 100).den E=false:=fat hf 0 rfl
 have q1:(SB.eq (rsE 5) (.c 0)).den E=false:=fat hf 3 rfl
 have q2:(SB.v 101).den E=true:=fat hf 2 rfl
 have ha:asks (sAt (E0.a 5) i) (tmA (E0.a 5) i) (onA (E0.a 5) i)=false:=by rw [c.asks];simp [q0,q1,q2]
 refine ⟨⟨_,rfl,.inr ⟨rfl,rfl⟩⟩,fun o=>?_⟩
 have R':R8 E0 (E.put zds [] zd4 o) (i+1):=c.fin hlt (.c false) (.c false) (.c 0) (.c 0) (.c 0) (.c 0) (.c 0) (.c 0) (.v 20) (c.R.ag.put o) rfl rfl (say_non hk ha) rfl (colL_f (frA_n ha)).symm rfl (fun u hu=>by rw [colL_f (frA_n ha)] at hu;exact absurd hu (Nat.not_lt_zero _))
 exact ⟨I8.mk1 R' (by rw [st_non hk ha];exact ⟨c.S.e,c.S.a,c.S.n0,c.S.m0⟩),fun b' hb=>by cases hb;exact c.mu hlt rfl (by decide)⟩
theorem h8p1x11_ok {E0 E:Env} {i b:Nat} (c:Cx E0 E i true b):VOkX (pts8 Try.prog) ct8 I8 mu8 (some b) E0 E h8p1x11:=by
 intro hf
 have hlt:=c.lt (fat hf 11 rfl)
 have hk:=c.kd (n:=1) (fat hf 3 rfl)
 have q0:(SB.eq (rsE 5) (.c 0)).den E=false:=fat hf 2 rfl
 have q1:(SB.v 101).den E=false:=fat hf 1 rfl
 have q2:(SB.eq (.v 138) (.c 0)).den E=true:=fat hf 0 rfl
 have ha:asks (sAt (E0.a 5) i) (tmA (E0.a 5) i) (onA (E0.a 5) i)=false:=by rw [c.asks];simp [q0,q1,q2]
 refine ⟨⟨_,rfl,.inr ⟨rfl,rfl⟩⟩,fun o=>?_⟩
 have R':R8 E0 (E.put zds [] zd4 o) (i+1):=c.fin hlt (.c false) (.c false) (.c 0) (.c 0) (.c 0) (.c 0) (.c 0) (.c 0) (.v 20) (c.R.ag.put o) rfl rfl (say_non hk ha) rfl (colL_f (frA_n ha)).symm rfl (fun u hu=>by rw [colL_f (frA_n ha)] at hu;exact absurd hu (Nat.not_lt_zero _))
 exact ⟨I8.mk1 R' (by rw [st_non hk ha];exact ⟨c.S.e,c.S.a,c.S.n0,c.S.m0⟩),fun b' hb=>by cases hb;exact c.mu hlt rfl (by decide)⟩
theorem h8p1x12_ok {E0 E:Env} {i b:Nat} (c:Cx E0 E i true b):VOkX (pts8 Try.prog) ct8 I8 mu8 (some b) E0 E h8p1x12:=by
 intro hf
 have hlt:=c.lt (fat hf 12 rfl)
 have hk:=c.kd (n:=1) (fat hf 4 rfl)
 have q0:(SB.eq (rsE 5) (.c 0)).den E=false:=fat hf 3 rfl
 have q1:(SB.v 101).den E=false:=fat hf 2 rfl
 have q2:(SB.eq (.v 138) (.c 0)).den E=false:=fat hf 1 rfl
 have q3:(SB.lt (rsE 3) (.v 138)).den E=true:=fat hf 0 rfl
 have ha:asks (sAt (E0.a 5) i) (tmA (E0.a 5) i) (onA (E0.a 5) i)=false:=by rw [c.asks];simp [q0,q1,q2,q3]
 refine ⟨⟨_,rfl,.inr ⟨rfl,rfl⟩⟩,fun o=>?_⟩
 have R':R8 E0 (E.put zds [] zd4 o) (i+1):=c.fin hlt (.c false) (.c false) (.c 0) (.c 0) (.c 0) (.c 0) (.c 0) (.c 0) (.v 20) (c.R.ag.put o) rfl rfl (say_non hk ha) rfl (colL_f (frA_n ha)).symm rfl (fun u hu=>by rw [colL_f (frA_n ha)] at hu;exact absurd hu (Nat.not_lt_zero _))
 exact ⟨I8.mk1 R' (by rw [st_non hk ha];exact ⟨c.S.e,c.S.a,c.S.n0,c.S.m0⟩),fun b' hb=>by cases hb;exact c.mu hlt rfl (by decide)⟩
theorem h8p1x13_ok {E0 E:Env} {i b:Nat} (c:Cx E0 E i true b):VOkX (pts8 Try.prog) ct8 I8 mu8 (some b) E0 E h8p1x13:=by
 intro hf
 exact c.dead1 (fat hf 0 rfl)
theorem h8p1x14_ok {E0 E:Env} {i b:Nat} (c:Cx E0 E i true b):VOkX (pts8 Try.prog) ct8 I8 mu8 (some b) E0 E h8p1x14:=by
 intro hf
 have hlt:=c.lt (fat hf 14 rfl)
 have hk:=c.kd (n:=1) (fat hf 6 rfl)
 have q0:(SB.v 100).den E=true:=fat hf 0 rfl
 have q1:(SB.eq (rsE 5) (.c 0)).den E=false:=fat hf 5 rfl
 have q2:(SB.v 101).den E=false:=fat hf 4 rfl
 have q3:(SB.eq (.v 138) (.c 0)).den E=false:=fat hf 3 rfl
 have q4:(SB.lt (rsE 3) (.v 138)).den E=false:=fat hf 2 rfl
 have ha:asks (sAt (E0.a 5) i) (tmA (E0.a 5) i) (onA (E0.a 5) i)=true:=by rw [c.asks];simp [q0,q1,q2,q3,q4]
 have hfr:=frA_t hk ha
 have hnw:(ofE true E).nw=true:=q0
 have hn1:=c.I.nw hnw
 have hn2:=c.I.n1
 have hne:(sAt (E0.a 5) i).n≠0:=by
  have h1:(sAt (E0.a 5) i).n=(ofE true E).n:=(congrArg St.n c.S.e).trans rfl
  omega
 refine ⟨⟨_,rfl,.inl ⟨rfl,rfl⟩⟩,fun o=>?_⟩
 refine ⟨I8.mk2 (q:=0) (E:=(E.put zd2 zbt zd3 o)) ⟨c.R.ag.put o,c.R.i110,c.R.le,c.R.A,c.R.L,c.R.C⟩ (S8.of (by rw [st_fr hk ha,c.S.full hne];exact h8p1x14_st c.hE o) c.S.n0 (fun _=>c.S.n0)) ⟨hlt,hfr,?_,rfl,c.S.n0,fun t ht=>absurd ht (Nat.not_lt_zero _)⟩,fun b' hb=>?_⟩
 ·unfold dlC
  rw [hfr,if_pos rfl,c.S.e,←c.tm];rfl
 ·cases hb
  rw [c.b]
  show (E0.i 60 - E.i 110).toNat*200+(E.i 100 - 0).toNat<_
  have h1:(E.i 100).toNat≤51:=hn2
  omega
theorem h8p1x15_ok {E0 E:Env} {i b:Nat} (c:Cx E0 E i true b):VOkX (pts8 Try.prog) ct8 I8 mu8 (some b) E0 E h8p1x15:=by
 intro hf
 have hlt:=c.lt (fat hf 14 rfl)
 have hk:=c.kd (n:=1) (fat hf 6 rfl)
 have q0:(SB.v 100).den E=false:=fat hf 0 rfl
 have q1:(SB.eq (rsE 5) (.c 0)).den E=false:=fat hf 5 rfl
 have q2:(SB.v 101).den E=false:=fat hf 4 rfl
 have q3:(SB.eq (.v 138) (.c 0)).den E=false:=fat hf 3 rfl
 have q4:(SB.lt (rsE 3) (.v 138)).den E=false:=fat hf 2 rfl
 have ha:asks (sAt (E0.a 5) i) (tmA (E0.a 5) i) (onA (E0.a 5) i)=false:=by rw [c.asks];simp [q0,q1,q2,q3,q4]
 refine ⟨⟨_,rfl,.inr ⟨rfl,rfl⟩⟩,fun o=>?_⟩
 have R':R8 E0 (E.put zds [] zd4 o) (i+1):=c.fin hlt (.c false) (.c false) (.c 0) (.c 0) (.c 0) (.c 0) (.c 0) (.c 0) (.v 20) (c.R.ag.put o) rfl rfl (say_non hk ha) rfl (colL_f (frA_n ha)).symm rfl (fun u hu=>by rw [colL_f (frA_n ha)] at hu;exact absurd hu (Nat.not_lt_zero _))
 exact ⟨I8.mk1 R' (by rw [st_non hk ha];exact ⟨c.S.e,c.S.a,c.S.n0,c.S.m0⟩),fun b' hb=>by cases hb;exact c.mu hlt rfl (by decide)⟩
theorem h8p1x16_ok {E0 E:Env} {i b:Nat} (c:Cx E0 E i true b):VOkX (pts8 Try.prog) ct8 I8 mu8 (some b) E0 E h8p1x16:=by
 intro hf
 have hlt:=c.lt (fat hf 10 rfl)
 have hk:=c.kd (n:=2) (fat hf 1 rfl)
 have h1:(rsE 2).den E≤E.i 136:=le_t.1 (fat hf 0 rfl)
 have hs:sAt (E0.a 5) (i+1)=sAt (E0.a 5) i:=by
  rw [st_cut hk];unfold cutS
  rw [if_pos]
  rw [←c.pn,show (sAt (E0.a 5) i).ig=E.i 136 from congrArg St.ig c.S.e];exact h1
 refine ⟨⟨_,rfl,.inr ⟨rfl,rfl⟩⟩,fun o=>?_⟩
 have R':R8 E0 (E.put zds [] zd4 o) (i+1):=c.fin hlt (.c false) (.c false) (.c 0) (.c 0) (.c 0) (.c 0) (.c 0) (.c 0) (.v 20) (c.R.ag.put o) rfl rfl (say_cut hk) rfl (colL_f (frA_f (by rw [hk];decide))).symm rfl (fun u hu=>by rw [colL_f (frA_f (by rw [hk];decide))] at hu;exact absurd hu (Nat.not_lt_zero _))
 exact ⟨I8.mk1 R' (by rw [hs];exact ⟨c.S.e,c.S.a,c.S.n0,c.S.m0⟩),fun b' hb=>by cases hb;exact c.mu hlt rfl (by decide)⟩
theorem h8p1x17_ok {E0 E:Env} {i b:Nat} (c:Cx E0 E i true b):VOkX (pts8 Try.prog) ct8 I8 mu8 (some b) E0 E h8p1x17:=by
 intro hf
 exact c.dead2 (fat hf 0 rfl) (fat hf 1 rfl)
theorem h8p1x18_ok {E0 E:Env} {i b:Nat} (c:Cx E0 E i true b):VOkX (pts8 Try.prog) ct8 I8 mu8 (some b) E0 E h8p1x18:=by
 intro hf
 have hlt:=c.lt (fat hf 14 rfl)
 have hk:=c.kd (n:=2) (fat hf 5 rfl)
 have h1:E.i 136<(rsE 2).den E:=le_f.1 (fat hf 4 rfl)
 have hn:(0:Int)≤h8p0e44.den E:=le_t.1 (fat hf 0 rfl)
 have hne:(sAt (E0.a 5) i).n≠0:=by
  have h2:(sAt (E0.a 5) i).n=(ofE true E).n:=(congrArg St.n c.S.e).trans rfl
  have h3:=c.P.S.ig i hlt hk
  have h4:=c.pn
  have h5:0≤E.i 136:=c.I.ig0
  obtain ⟨q,hq,_⟩:=(c.I.t (by omega)).2
  omega
 refine ⟨⟨_,rfl,.inr ⟨rfl,rfl⟩⟩,fun o=>?_⟩
 have R':R8 E0 (E.put zd5 [] zd6 o) (i+1):=c.fin hlt (.c false) (.c false) (.c 0) (.c 0) (.c 0) (.c 0) (.c 0) (.c 0) (.v 20) (c.R.ag.put o) rfl rfl (say_cut hk) rfl (colL_f (frA_f (by rw [hk];decide))).symm rfl (fun u hu=>by rw [colL_f (frA_f (by rw [hk];decide))] at hu;exact absurd hu (Nat.not_lt_zero _))
 exact ⟨I8.mk1 R' (S8.of (by rw [st_cut hk,c.S.full hne,←c.pn];exact h8p1x18_st c.hE o h1) (by show 0≤h8p0e44.den E;omega) (c.S.m0)),fun b' hb=>by cases hb;exact c.mu hlt rfl (by decide)⟩
theorem h8p1x19_ok {E0 E:Env} {i b:Nat} (c:Cx E0 E i true b):VOkX (pts8 Try.prog) ct8 I8 mu8 (some b) E0 E h8p1x19:=by
 intro hf
 have hlt:=c.lt (fat hf 11 rfl)
 have hk:=c.kd (n:=3) (fat hf 1 rfl)
 have hsy:=say_dup hk
 rw [c.old1 (fat hf 0 rfl)] at hsy
 refine ⟨⟨_,rfl,.inr ⟨rfl,rfl⟩⟩,fun o=>?_⟩
 have R':R8 E0 (E.put zds [] zd7 o) (i+1):=c.fin hlt (.c true) (.c false) (.c 0) (.c 0) (.c 0) (.c 0) (.c 0) (.c 0) (.v 20) (c.R.ag.put o) rfl rfl (hsy) rfl (colL_f (frA_f (by rw [hk];decide))).symm rfl (fun u hu=>by rw [colL_f (frA_f (by rw [hk];decide))] at hu;exact absurd hu (Nat.not_lt_zero _))
 exact ⟨I8.mk1 R' (by rw [st_else (by rw [hk];decide) (by rw [hk];decide) (by rw [hk];decide)];exact ⟨c.S.e,c.S.a,c.S.n0,c.S.m0⟩),fun b' hb=>by cases hb;exact c.mu hlt rfl (by decide)⟩
theorem h8p1x20_ok {E0 E:Env} {i b:Nat} (c:Cx E0 E i true b):VOkX (pts8 Try.prog) ct8 I8 mu8 (some b) E0 E h8p1x20:=by
 intro hf
 have hlt:=c.lt (fat hf 11 rfl)
 have hk:=c.kd (n:=3) (fat hf 1 rfl)
 have hsy:=say_dup hk
 rw [c.old3 (fat hf 0 rfl)] at hsy
 refine ⟨⟨_,rfl,.inr ⟨rfl,rfl⟩⟩,fun o=>?_⟩
 have R':R8 E0 (E.put zds [] zd8 o) (i+1):=c.fin hlt (.ap 6 (.a (.v 100) (.i (.v 100) (.i h8p0e10 .nil)))) (.c false) (.c 0) (.c 0) (.c 0) (.c 0) (.c 0) (.c 0) (.v 20) (c.R.ag.put o) rfl rfl (hsy) rfl (colL_f (frA_f (by rw [hk];decide))).symm rfl (fun u hu=>by rw [colL_f (frA_f (by rw [hk];decide))] at hu;exact absurd hu (Nat.not_lt_zero _))
 exact ⟨I8.mk1 R' (by rw [st_else (by rw [hk];decide) (by rw [hk];decide) (by rw [hk];decide)];exact ⟨c.S.e,c.S.a,c.S.n0,c.S.m0⟩),fun b' hb=>by cases hb;exact c.mu hlt rfl (by decide)⟩
theorem h8p1x21_ok {E0 E:Env} {i b:Nat} (c:Cx E0 E i true b):VOkX (pts8 Try.prog) ct8 I8 mu8 (some b) E0 E h8p1x21:=by
 intro hf
 have hlt:=c.lt (fat hf 11 rfl)
 have hk:=c.kd (n:=4) (fat hf 0 rfl)
 have hsy:=say_al hk
 rw [show (sAt (E0.a 5) i).al=E.i 138 from congrArg St.al c.S.e] at hsy
 refine ⟨⟨_,rfl,.inr ⟨rfl,rfl⟩⟩,fun o=>?_⟩
 have R':R8 E0 (E.put zds [] zd9 o) (i+1):=c.fin hlt (.c false) (.c false) (.c 0) (.v 138) (.c 0) (.c 0) (.c 0) (.c 0) (.v 20) (c.R.ag.put o) rfl rfl (hsy) rfl (colL_f (frA_f (by rw [hk];decide))).symm rfl (fun u hu=>by rw [colL_f (frA_f (by rw [hk];decide))] at hu;exact absurd hu (Nat.not_lt_zero _))
 exact ⟨I8.mk1 R' (by rw [st_else (by rw [hk];decide) (by rw [hk];decide) (by rw [hk];decide)];exact ⟨c.S.e,c.S.a,c.S.n0,c.S.m0⟩),fun b' hb=>by cases hb;exact c.mu hlt rfl (by decide)⟩
theorem h8p1x22_ok {E0 E:Env} {i b:Nat} (c:Cx E0 E i true b):VOkX (pts8 Try.prog) ct8 I8 mu8 (some b) E0 E h8p1x22:=by
 intro hf
 have hlt:=c.lt (fat hf 11 rfl)
 have n0:=c.nk (n:=0) (fat hf 4 rfl)
 have n1:=c.nk (n:=1) (fat hf 3 rfl)
 have n2:=c.nk (n:=2) (fat hf 2 rfl)
 have n3:=c.nk (n:=3) (fat hf 1 rfl)
 have n4:=c.nk (n:=4) (fat hf 0 rfl)
 have h3:=c.P.S.kd i hlt
 omega
theorem h8p1x23_ok {E0 E:Env} {i b:Nat} (c:Cx E0 E i true b):VOkX (pts8 Try.prog) ct8 I8 mu8 (some b) E0 E h8p1x23:=by
 intro hf
 have hlt:=c.lt (fat hf 6 rfl)
 have h1:=le_f.1 (fat hf 0 rfl)
 have h2:=c.tm
 have h3:=c.P.S.tm i hlt
 have h4:(rsE 3).den E=h8p0e13.den E:=rfl
 simp only [d_c] at h1
 omega
theorem h8p1x24_ok {E0 E:Env} {i b:Nat} (c:Cx E0 E i true b):VOkX (pts8 Try.prog) ct8 I8 mu8 (some b) E0 E h8p1x24:=by
 intro hf
 have hlt:=c.lt (fat hf 5 rfl)
 have h1:=le_f.1 (fat hf 0 rfl)
 have h2:=c.tm
 have h3:=c.P.S.tm i hlt
 have h4:(rsE 3).den E=h8p0e13.den E:=rfl
 simp only [d_c] at h1
 omega
theorem h8p1x25_ok {E0 E:Env} {i b:Nat} (c:Cx E0 E i true b):VOkX (pts8 Try.prog) ct8 I8 mu8 (some b) E0 E h8p1x25:=by
 intro hf
 have hlt:=c.lt (fat hf 4 rfl)
 have h1:=le_f.1 (fat hf 0 rfl)
 have h2:=c.pn
 have h3:=c.P.S.pn i hlt
 have h4:(rsE 2).den E=h8p0e10.den E:=rfl
 simp only [d_c] at h1
 omega
theorem h8p1x26_ok {E0 E:Env} {i b:Nat} (c:Cx E0 E i true b):VOkX (pts8 Try.prog) ct8 I8 mu8 (some b) E0 E h8p1x26:=by
 intro hf
 have hlt:=c.lt (fat hf 3 rfl)
 have h1:=le_f.1 (fat hf 0 rfl)
 have h2:=c.pn
 have h3:=c.P.S.pn i hlt
 have h4:(rsE 2).den E=h8p0e10.den E:=rfl
 simp only [d_c] at h1
 omega
theorem h8p1x27_ok {E0 E:Env} {i b:Nat} (c:Cx E0 E i true b):VOkX (pts8 Try.prog) ct8 I8 mu8 (some b) E0 E h8p1x27:=by
 intro hf
 have hlt:=c.lt (fat hf 2 rfl)
 have h1:=le_f.1 (fat hf 0 rfl)
 have h2:=c.ec
 have h3:=c.P.S.ec i hlt
 have h4:(rsE 1).den E=h8p0e15.den E:=rfl
 simp only [d_c] at h1
 omega
theorem h8p1x28_ok {E0 E:Env} {i b:Nat} (c:Cx E0 E i true b):VOkX (pts8 Try.prog) ct8 I8 mu8 (some b) E0 E h8p1x28:=by
 intro hf
 have hlt:=c.lt (fat hf 1 rfl)
 have h1:=le_f.1 (fat hf 0 rfl)
 have h2:=c.ec
 have h3:=c.P.S.ec i hlt
 have h4:(rsE 1).den E=h8p0e15.den E:=rfl
 simp only [d_c] at h1
 omega
theorem h8p1x29_ok {E0 E:Env} {i b:Nat} (c:Cx E0 E i true b):VOkX (pts8 Try.prog) ct8 I8 mu8 (some b) E0 E h8p1x29:=by
 intro hf
 have h1:E.i 60≤E.i 110:=le_of_not_lt' (fat hf 0 rfl)
 have q60:=c.R.ag.i 60 (by decide)
 have hle:=c.R.le
 have hi:=c.R.i110
 have hn0:=c.P.n0
 have hin:i=(E0.i 60).toNat:=by omega
 exact out8 c.h0 c.hE c.R hin hn0
theorem h8p1ls_ok {E0 E:Env} {i b:Nat} (c:Cx E0 E i true b): ∀x∈h8p1ls,VOkX (pts8 Try.prog) ct8 I8 mu8 (some b) E0 E x:=by
 intro x hx
 unfold h8p1ls at hx
 simp only [List.mem_cons,List.not_mem_nil,or_false] at hx
 rcases hx with rfl|rfl|rfl|rfl|rfl|rfl|rfl|rfl|rfl|rfl|rfl|rfl|rfl|rfl|rfl|rfl|rfl|rfl|rfl|rfl|rfl|rfl|rfl|rfl|rfl|rfl|rfl|rfl|rfl|rfl
 ·exact h8p1x0_ok c
 ·exact h8p1x1_ok c
 ·exact h8p1x2_ok c
 ·exact h8p1x3_ok c
 ·exact h8p1x4_ok c
 ·exact h8p1x5_ok c
 ·exact h8p1x6_ok c
 ·exact h8p1x7_ok c
 ·exact h8p1x8_ok c
 ·exact h8p1x9_ok c
 ·exact h8p1x10_ok c
 ·exact h8p1x11_ok c
 ·exact h8p1x12_ok c
 ·exact h8p1x13_ok c
 ·exact h8p1x14_ok c
 ·exact h8p1x15_ok c
 ·exact h8p1x16_ok c
 ·exact h8p1x17_ok c
 ·exact h8p1x18_ok c
 ·exact h8p1x19_ok c
 ·exact h8p1x20_ok c
 ·exact h8p1x21_ok c
 ·exact h8p1x22_ok c
 ·exact h8p1x23_ok c
 ·exact h8p1x24_ok c
 ·exact h8p1x25_ok c
 ·exact h8p1x26_ok c
 ·exact h8p1x27_ok c
 ·exact h8p1x28_ok c
 ·exact h8p1x29_ok c
theorem h8p2x0_ok {E0 E:Env} {i q b:Nat} (h0:E0.fn=fns) (hE:E.fn=fns) (hR:R8 E0 E i) (hS:S8 E true (sAt (E0.a 5) (i+1))) (hI:In8 E0 E i q) (hb:b=mu8 E0 2 E):VOkX (pts8 Try.prog) ct8 I8 mu8 (some b) E0 E h8p2x0:=by
 intro hf
 have h1:E.i 150<E.i 140:=lt_t.1 (fat hf 0 rfl)
 have h2:=hI.i150
 refine ⟨⟨_,rfl,.inr ⟨rfl,rfl⟩⟩,fun o=>⟨I8.mk2 (q:=q+1) (E:=(E.put [(150,h8p2e0)] [] [(103,h8p2e5)] o)) ⟨hR.ag.put o,hR.i110,hR.le,hR.A,hR.L,hR.C⟩ ⟨hS.e,hS.a,hS.n0,hS.m0⟩ ⟨hI.lt,hI.fr,hI.d,?_,?_,fun t ht=>?_⟩,fun b' hb'=>?_⟩⟩
 ·show E.i 150+1=_
  rw [h2];omega
 ·show ((q+1:Nat):Int)≤E.i 140
  omega
 ·show (AE.tl (.v 103) (.mul (.v 150) (.c 2)) (.i (.rd (.v 102) (.mul (.v 150) (.c 2))) (.i (.rd (.v 102) (.add (.mul (.v 150) (.c 2)) (.c 1))) .nil))).den E t=E.a 102 t
  have h3:((SE.mul (.v 150) (.c 2)).den E).toNat=q*2:=by
   show (E.i 150*2).toNat=_
   omega
  have h4:((SE.add (.mul (.v 150) (.c 2)) (.c 1)).den E).toNat=q*2+1:=by
   show (E.i 150*2+1).toNat=_
   omega
  rw [tlE h3]
  split
  ·rename_i h5;exact hI.X t h5
  ·rename_i h5
   have:t=q*2∨t=q*2+1:=by omega
   rcases this with rfl|rfl
   ·rw [Nat.sub_self]
    show E.a 102 ((SE.mul (.v 150) (.c 2)).den E).toNat=_
    rw [h3]
   ·rw [show q*2+1 - q*2=1 by omega]
    show E.a 102 ((SE.add (.mul (.v 150) (.c 2)) (.c 1)).den E).toNat=_
    rw [h4]
 ·cases hb'
  rw [hb]
  show (E0.i 60 - E.i 110).toNat*200+(E.i 140 - (E.i 150+1)).toNat<(E0.i 60 - E.i 110).toNat*200+(E.i 140 - E.i 150).toNat
  omega
theorem h8p2x1_ok {E0 E:Env} {i q b:Nat} (h0:E0.fn=fns) (hE:E.fn=fns) (P:P8 E0) (hR:R8 E0 E i) (hS:S8 E true (sAt (E0.a 5) (i+1))) (hI:In8 E0 E i q) (hb:b=mu8 E0 2 E):VOkX (pts8 Try.prog) ct8 I8 mu8 (some b) E0 E h8p2x1:=by
 intro hf
 have h1:E.i 140≤E.i 150:=lt_f.1 (fat hf 0 rfl)
 have h2:=hI.i150
 have h3:=hI.qm
 have hlt:=hI.lt
 have hk:kdA (E0.a 5) i=1:=by have:=hI.fr;unfold frA at this;rw [Bool.and_eq_true,decide_eq_true_eq] at this;exact this.1
 have ha:asks (sAt (E0.a 5) i) (tmA (E0.a 5) i) (onA (E0.a 5) i)=true:=by have:=hI.fr;unfold frA at this;rw [Bool.and_eq_true] at this;exact this.2
 have hs:=st_fr hk ha
 have g: ∀{α:Type} (f:St→α),(∀(s:St) (B:Nat→Int),f (s.setA B)=f s)→f (fram (sAt (E0.a 5) i))=f (ofE true E):=fun f hf=>by
  rw [←hs]
  exact (congrArg f hS.e).trans (hf _ _)
 have hm:((sAt (E0.a 5) i).n)=(E.i 140).toNat:=g St.m (fun _ _=>rfl)
 have hB:rvA (sAt (E0.a 5) i).A (sAt (E0.a 5) i).n=E.a 102:=g St.B (fun _ _=>rfl)
 have hc0:(sAt (E0.a 5) i).c0=E.i 131:=g St.c0 (fun _ _=>rfl)
 have hc1:(sAt (E0.a 5) i).c1=E.i 132:=g St.c1 (fun _ _=>rfl)
 have hce:(sAt (E0.a 5) i).ce=E.i 133:=g St.ce (fun _ _=>rfl)
 have hL:colL (E0.a 5) i=E.i 150:=by
  unfold colL
  rw [hI.fr,if_pos rfl,hm];omega
 refine ⟨⟨_,rfl,.inr ⟨rfl,rfl⟩⟩,fun o=>?_⟩
 have hsay:=say_fr hI.fr
 rw [hc0,hc1,hce,←hI.d] at hsay
 have h8:((SE.mul (.v 110) (.c 8)).den E).toNat=i*8:=by
  show (E.i 110*8).toNat=_
  rw [hR.i110];omega
 have h11:((SE.v 110).den E).toNat=i:=by
  show (E.i 110).toNat=_
  rw [hR.i110];omega
 have h128:((SE.mul (.v 110) (.c 128)).den E).toNat=i*128:=by
  show (E.i 110*128).toNat=_
  rw [hR.i110];omega
 have R':R8 E0 (E.put zds [] zed o) (i+1):=hR.next hlt (hR.ag.put o) rfl (fun t=>tlE h8 t) (Say.nth (f:=(.c true)) (w:=(.c false)) (q:=(.c 0)) (d:=(.v 151)) (a:=(.c 0)) (x:=(.v 131)) (y:=(.v 132)) (z:=(.v 133)) hsay rfl) (fun t=>tlE h11 t) (show E.i 150=_ from hL.symm) (fun t=>catE hE h128 t) (fun u hu=>by
  rw [hL] at hu
  show (AE.v 103).den E u=_
  rw [show (AE.v 103).den E u=E.a 103 u from by simp only [AE.den],hI.X u (by omega),←hB]
  unfold colC
  rw [show (i*128+u)/128=i by have:=sAt_k P.S (by have:=P.n1;omega) hR.le;rw [hL] at this;omega,show (i*128+u) % 128=u by have:=sAt_k P.S (by have:=P.n1;omega) hR.le;rw [hL] at this;omega])
  (fun j hj=>sAt_k P.S (by have:=P.n1;omega) (Nat.le_trans hj hR.le))
 refine ⟨I8.mk1 R' ⟨hS.e,hS.a,hS.n0,hS.m0⟩,fun b' hb'=>?_⟩
 cases hb'
 rw [hb]
 show (E0.i 60 - (E.i 110+1)).toNat*200+100<(E0.i 60 - E.i 110).toNat*200+(E.i 140 - E.i 150).toNat
 rw [hR.i110]
 omega
theorem ct8_ok:CtOk Try.prog fns ct8:=by
 refine ct_of_ptsX (p:=prm8 Try.prog) (pts:=pts8 Try.prog) (n:=900) (c0:=enterD (prm8 Try.prog) ct8) (fun E hE=>prm8_ok E hE) rfl (by intro q hq;cases hq) Try.func8 (by kernel_rfl) ?_ I8 mu8 h8als h8arun ?_ ?_
 ·intro t ht
  simp only [pts8,List.mem_cons,List.not_mem_nil,or_false] at ht
  rcases ht with rfl|rfl|rfl
  ·exact ⟨by kernel_rfl,by decide⟩
  ·exact ⟨by kernel_rfl,by decide⟩
  ·exact ⟨by kernel_rfl,by decide⟩
 ·intro E0 hE0 hF
  refine ⟨fun a ha=>(by cases ha;intro q hq;cases hq),fun E H1 _ x hx=>?_⟩
  unfold h8als at hx
  simp only [List.mem_cons,List.not_mem_nil,or_false] at hx
  subst hx
  intro hf
  have H:AgP 100 E0 E:=AgP.trans (by omega) (AgP.refl 100 E0) H1.p
  exact ⟨⟨_,rfl,.inl ⟨rfl,rfl⟩⟩,fun o=>⟨I8.mk0 (i:=0) ⟨H.put o,rfl,Nat.zero_le _,fun t ht=>absurd ht (Nat.not_lt_zero _),fun t ht=>absurd ht (Nat.not_lt_zero _),fun k hk=>absurd hk (Nat.not_lt_zero _)⟩ ⟨rfl,fun h=>absurd rfl h,Int.le_refl 0,fun h=>(by cases h)⟩,fun b hb=>by cases hb⟩⟩
 ·intro k t ht
  have hk:k=0∨k=1∨k=2:=by
   have:=(List.getElem?_eq_some_iff.1 ht).1
   simp [pts8] at this;omega
  have mk: ∀{E0 E1 E:Env} {i:Nat} {k:Bool} {j:Nat},E0.fn=fns→E1.fn=fns→Facts E0 ct8.pre→AgE 1000 E1 E→j<2→R8 E0 E1 i→S8 E1 k (sAt (E0.a 5) i)→Cx E0 E i k (mu8 E0 j E1):=fun {E0 E1 E i k j} hE0 hE1 hF0 H1 hj hR hS=>by
   have P:=pre8 hE0 hF0
   have hI:=hS.inv (inv_at P.S (by have:=P.n1;omega) i hR.le)
   refine ⟨hE0,H1.fn.trans hE1,hF0,P,hR.up H1,hS.up H1,by rw [ofE_up H1];exact hI,?_⟩
   unfold mu8
   rw [if_neg (by omega),H1.i 110 (by decide)]
  rcases hk with rfl|rfl|rfl
  ·obtain rfl:=Option.some.inj ht
   refine ⟨h8p0ls,h8p0run,fun E0 E1 hE0 hE1 hF0 hI=>?_⟩
   obtain ⟨i,hR,hS⟩: ∃i,R8 E0 E1 i∧S8 E1 false (sAt (E0.a 5) i):=by
    rcases hI with ⟨_,h⟩|⟨h,_⟩|⟨h,_⟩
    ·exact h
    ·cases h
    ·cases h
   have P:=pre8 hE0 hF0
   have hV:=hS.inv (inv_at P.S (by have:=P.n1;omega) i hR.le)
   exact ⟨pf_of hE1 hF0 hR (by have:=hR.le;have:=P.n1;omega) hV hS.n0,fun E H1 _ x hx=>h8p0ls_ok (mk hE0 hE1 hF0 H1 (by decide) hR hS) x hx⟩
  ·obtain rfl:=Option.some.inj ht
   refine ⟨h8p1ls,h8p1run,fun E0 E1 hE0 hE1 hF0 hI=>?_⟩
   obtain ⟨i,hR,hS⟩: ∃i,R8 E0 E1 i∧S8 E1 true (sAt (E0.a 5) i):=by
    rcases hI with ⟨h,_⟩|⟨_,h⟩|⟨h,_⟩
    ·cases h
    ·exact h
    ·cases h
   have P:=pre8 hE0 hF0
   have hV:=hS.inv (inv_at P.S (by have:=P.n1;omega) i hR.le)
   exact ⟨facts_append (pf_of hE1 hF0 hR (by have:=hR.le;have:=P.n1;omega) hV hS.n0) (rd_of8 hE1 hV (hS.m0 rfl)),fun E H1 _ x hx=>h8p1ls_ok (mk hE0 hE1 hF0 H1 (by decide) hR hS) x hx⟩
  ·obtain rfl:=Option.some.inj ht
   refine ⟨h8p2ls,h8p2run,fun E0 E1 hE0 hE1 hF0 hI=>?_⟩
   obtain ⟨i,q,hR,hS,hJ⟩: ∃i q,R8 E0 E1 i∧S8 E1 true (sAt (E0.a 5) (i+1))∧In8 E0 E1 i q:=by
    rcases hI with ⟨h,_⟩|⟨h,_⟩|⟨_,h⟩
    ·cases h
    ·cases h
    ·exact h
   have P:=pre8 hE0 hF0
   have hlt:=hJ.lt
   have hV:=hS.inv (inv_at P.S (by have:=P.n1;omega) (i+1) hlt)
   have hm:E1.i 140≤51:=by
    have h1:(E1.i 140).toNat≤51:=(hV.k rfl).2.1
    omega
   refine ⟨facts_append (facts_append (facts_append (pf_of hE1 hF0 hR (by have:=P.n1;omega) hV hS.n0) (rd_of8 hE1 hV (hS.m0 rfl))) ?_) ?_,fun E H1 _ x hx=>?_⟩
   ·have h1:=hJ.i150;have h2:=hJ.qm
    simp only [bd,facts_cons,facts_nil,le_t,d_c,d_v,and_true];omega
   ·have h1:=hJ.i150;have h2:=hJ.qm;have h3:=hR.i110;have h4:=hR.ag.i 60 (by decide)
    simp only [facts_cons,facts_nil,le_t,lt_t,d_c,d_v,and_true];omega
   ·have hb:mu8 E0 2 E1=mu8 E0 2 E:=by
     unfold mu8
     rw [H1.i 110 (by decide),H1.i 140 (by decide),H1.i 150 (by decide)]
    unfold h8p2ls at hx
    simp only [List.mem_cons,List.not_mem_nil,or_false] at hx
    rcases hx with rfl|rfl
    ·exact h8p2x0_ok hE0 (H1.fn.trans hE1) (hR.up H1) (hS.up H1) (hJ.up H1) hb
    ·exact h8p2x1_ok hE0 (H1.fn.trans hE1) P (hR.up H1) (hS.up H1) (hJ.up H1) hb
theorem btL_ok: ∀b∈[btRecLen 29 1000,btRecIx 29 1000 rq,btRecLd 4 1000 rq 0,btRecAll 1000 rq]++btN,BtOk Try.prog fns b:=by
 intro b hb
 rcases List.mem_append.1 hb with hb|hb
 ·simp only [List.mem_cons,List.not_mem_nil,or_false] at hb
  rcases hb with rfl|rfl|rfl|rfl
  ·exact btRecLen_ok rokq t29
  ·exact btRecIx_ok rokq t29 s35
  ·exact btRecLd_ok rokq (by decide) (by kernel_rfl)
  ·exact btRecAll_ok rokq (by kernel_rfl) s35
 ·exact btN_ok b hb
theorem upd0 {E0:Env} {n:Nat} (V:Env) (hn:n=0):E0.upd xb n V=E0:=by subst hn;exact Env.upd_zero _ _ _
end Go.Proofs.Ytgianhjmjiiadaa
end
section
set_option autoImplicit true
set_option relaxedAutoImplicit true
set_option linter.unusedVariables false
set_option linter.unusedSimpArgs false
set_option maxRecDepth 100000
namespace Go.Proofs.Ytgianhjmjiiadaa
open Go Go.Sy Go.RowKit
section
variable {E0 E E':Env} {i:Nat}
structure KS where
 c0:Int
 c1:Int
 ce:Int
 nw:Bool
 k:Bool
 n:Nat
 m:Nat
 A:Nat→Int
 B:Nat→Int
def kst (s:St):KS:=⟨s.c0,s.c1,s.ce,s.nw,s.k,s.n,s.m,s.A,s.B⟩
noncomputable def ofK (k:Bool) (E:Env):KS:=⟨E.i 131,E.i 132,E.i 133,E.b 100,k,(E.i 100).toNat,cond k (E.i 140).toNat 0,E.a 100,cond k (E.a 102) (fun _=>0)⟩
def KS.setA (s:KS) (A:Nat→Int):KS:=⟨s.c0,s.c1,s.ce,s.nw,s.k,s.n,s.m,A,s.B⟩
def rcvK (s:KS) (p e:Int) (z:Bool):KS:=
 let ec:Int:=if (e==1)=true then 2 else if (e==2)=true then 3 else if (e==3)=true then 4 else 1
 { s with
   c0:=if (ec==3)=true then s.c0+1 else s.c0
   c1:=if (ec==2)=true then s.c1+1 else s.c1
   ce:=if (ec==4)=true then s.ce+1 else s.ce
   nw:=!(!s.nw&&z)
   n:=addN s.A s.n p
   A:=addA s.A s.n p }
def framK (s:KS):KS:={ s with k:=true,m:=s.n,B:=rvA s.A s.n,nw:=false }
theorem kst_rcv {s:St} {p e t:Int} {z el:Bool} (hz:el=!z):kst (rcv s p e t el)=rcvK (kst s) p e z:=by
 subst hz
 have h1:ecnI e=(if (e==1)=true then 2 else if (e==2)=true then 3 else if (e==3)=true then 4 else 1):=by
  unfold ecnI;simp only [beq_iff_eq]
 unfold rcvK kst rcv
 simp only
 rw [←h1]
 congr 1
 ·simp only [beq_iff_eq]
 ·simp only [beq_iff_eq]
 ·simp only [beq_iff_eq]
 ·cases s.nw<;>cases z<;>rfl
structure SK (E:Env) (k:Bool) (s:St):Prop where
 e:kst s=(ofK k E).setA s.A
 a:s.n≠0→s.A=E.a 100
 n0:0≤E.i 100
 m0:k=true→0≤E.i 140
theorem ofK_up (H:AgE 1000 E E') (k:Bool):ofK k E'=ofK k E:=by
 unfold ofK
 rw [H.i 131 (by decide),H.i 132 (by decide),H.i 133 (by decide),H.b 100 (by decide),H.i 100 (by decide),H.i 140 (by decide),H.a 100 (by decide),H.a 102 (by decide)]
theorem SK.up {k:Bool} {s:St} (h:SK E k s) (H:AgE 1000 E E'):SK E' k s:=⟨by rw [ofK_up H k];exact h.e,fun hn=>by rw [H.a 100 (by decide)];exact h.a hn,by rw [H.i 100 (by decide)];exact h.n0,fun hk=>by rw [H.i 140 (by decide)];exact h.m0 hk⟩
theorem SK.of {k:Bool} {s:St} (h:kst s=ofK k E) (n0:0≤E.i 100) (m0:k=true→0≤E.i 140):SK E k s:=by
 have hA:s.A=E.a 100:=congrArg KS.A h
 exact ⟨by rw [h,hA];rfl,fun _=>hA,n0,m0⟩
theorem SK.n {k:Bool} {s:St} (h:SK E k s):s.n=(E.i 100).toNat:=congrArg KS.n h.e
theorem SK.rcv {k:Bool} {s:St} (h:SK E k s) (p e t:Int) {z el:Bool} (hz:el=!z):kst (rcv s p e t el)=rcvK (ofK k E) p e z:=by
 have h1:Ytgianhjmjiiadaa.rcv s p e t el=Ytgianhjmjiiadaa.rcv (s.setA (E.a 100)) p e t el:=by
  by_cases hn:s.n=0
  ·exact (rcv_A hn p e t el).symm
  ·rw [←h.a hn];rfl
 rw [h1,kst_rcv hz]
 have h2:kst (s.setA (E.a 100))=(kst s).setA (E.a 100):=rfl
 rw [h2,h.e];rfl
theorem SK.fram {k:Bool} {s:St} (h:SK E k s) (hn:s.n≠0):kst (fram s)=framK (ofK k E):=by
 have h2:kst (Ytgianhjmjiiadaa.fram s)=framK (kst s):=rfl
 rw [h2,h.e,h.a hn];rfl
theorem SK.mem {k:Bool} {s:St} (h:SK E k s) (p:Int):memD s.A s.n p=memD (E.a 100) (E.i 100).toNat p:=by
 rw [←h.n]
 by_cases hn:s.n=0
 ·rw [hn,memD_0,memD_0]
 ·rw [h.a hn]
theorem db_k {S:Nat→Int} {n:Nat} (h:SOk0 S n): ∀j,j≤n→(sAt (offS S) j).db= -1
 |0,_=>rfl
 |j+1,hj=>by
  have ih:=db_k h j (by omega)
  have hk:=(h.k2 j (by omega)).1
  rw [←(off_c S j).1] at hk
  simp only [sAt,stp]
  split
  ·split
   ·exact ih
   ·exact ih
  ·split
   ·split
    ·exact ih
    ·exact ih
   ·first|exact ih|(rw [if_neg hk];exact ih)|(split<;>first|exact ih|(rename_i h2;exact absurd h2 hk))
structure RK (E0 E:Env) (i:Nat):Prop where
 ag:AgP 100 E0 E
 i110:E.i 110=i
 le:i≤(E0.i 60).toNat
 A: ∀t,t<i*8→E.a 120 t=colA0 (E0.a 5) t
 L: ∀t,t<i→E.a 122 t=colL0 (E0.a 5) t
 C: ∀k,k<i→ ∀u,u<(colL0 (E0.a 5) k).toNat*2→E.a 124 (k*128+u)=colC0 (E0.a 5) (k*128+u)
theorem RK.up (h:RK E0 E i) (H:AgE 1000 E E'):RK E0 E' i where
 ag:=h.ag.trans (by omega) H.p
 i110:=by rw [H.i 110 (by decide)];exact h.i110
 le:=h.le
 A:=by rw [H.a 120 (by decide)];exact h.A
 L:=by rw [H.a 122 (by decide)];exact h.L
 C:=by rw [H.a 124 (by decide)];exact h.C
noncomputable def cell0 (S:Nat→Int) (i c:Nat):Int:=if c=3 then 0 else cellA (offS S) i c
theorem RK.next (h:RK E0 E i) (hlt:i<(E0.i 60).toNat) (hag:AgP 100 E0 E') (h110:E'.i 110=E.i 110+1) {lA lL R:Nat→Int}
 (cA: ∀t,E'.a 120 t=if t<i*8 then E.a 120 t else lA (t - i*8)) (hA: ∀c,c<8→lA c=cell0 (E0.a 5) i c)
 (cL: ∀t,E'.a 122 t=if t<i then E.a 122 t else lL (t - i)) (hL:lL 0=colL0 (E0.a 5) i)
 (cC: ∀t,E'.a 124 t=if t<i*128 then E.a 124 t else R (t - i*128)) (hR: ∀u,u<(colL0 (E0.a 5) i).toNat*2→R u=colC0 (E0.a 5) (i*128+u)) (hb: ∀k,k≤i→(colL0 (E0.a 5) k).toNat*2≤128):RK E0 E' (i+1) where
 ag:=hag
 i110:=by rw [h110,h.i110];omega
 le:=hlt
 A t ht:=by
   rw [cA]
   split
   ·rename_i h1;exact h.A t h1
   ·rename_i h1
    rw [hA _ (by omega)]
    unfold colA0 colA cell0
    rw [show t/8=i by omega,show t % 8=t - i*8 by omega]
 L t ht:=by
   rw [cL]
   split
   ·rename_i h1;exact h.L t h1
   ·rename_i h1
    have:t=i:=by omega
    subst this
    rw [Nat.sub_self];exact hL
 C k hk u hu:=by
   have:=hb k (by omega)
   rw [cC]
   split
   ·rename_i h1;exact h.C k (by omega) u hu
   ·rename_i h1
    have:k=i:=by omega
    subst this
    rw [show k*128+u - k*128=u by omega];exact hR u hu
theorem Say.nth0 {S:Nat→Int} {f w:SB} {q d a x y z:SE} {d0:Int} (h:Say (offS S) i (f.den E) (w.den E) d0 (a.den E) (x.den E) (y.den E) (z.den E)) (hq:q.den E=0) (hd:d.den E=0): ∀c,c<8→(SL.b f (.b w (.i q (.i d (.i a (.i x (.i y (.i z .nil)))))))).nth E c=cell0 S i c:=by
 intro c hc
 have:c=0∨c=1∨c=2∨c=3∨c=4∨c=5∨c=6∨c=7:=by omega
 rcases this with rfl|rfl|rfl|rfl|rfl|rfl|rfl|rfl
 ·show b2i (f.den E)=b2i (isC (offS S) i);rw [h.f]
 ·show b2i (w.den E)=b2i (wrC (offS S) i);rw [h.w]
 ·exact hq
 ·exact hd
 ·exact h.a.symm
 ·exact h.x.symm
 ·exact h.y.symm
 ·exact h.z.symm
structure InK (E0 E:Env) (i q:Nat):Prop where
 lt:i<(E0.i 60).toNat
 fr:frA (offS (E0.a 5)) i=true
 i150:E.i 150=q
 qm:(q:Int)≤E.i 140
 X: ∀t,t<q*2→E.a 103 t=E.a 102 t
theorem InK.up {q:Nat} (h:InK E0 E i q) (H:AgE 1000 E E'):InK E0 E' i q:=⟨h.lt,h.fr,by rw [H.i 150 (by decide)];exact h.i150,by rw [H.i 140 (by decide)];exact h.qm,by rw [H.a 103 (by decide),H.a 102 (by decide)];exact h.X⟩
def IK (E0:Env) (j:Nat) (E:Env):Prop:=
 (j=0∧ ∃i,RK E0 E i∧SK E false (sAt (offS (E0.a 5)) i))∨(j=1∧ ∃i,RK E0 E i∧SK E true (sAt (offS (E0.a 5)) i))∨(j=2∧ ∃i q,RK E0 E i∧SK E true (sAt (offS (E0.a 5)) (i+1))∧InK E0 E i q)
theorem IK.mk0 (hR:RK E0 E i) (hS:SK E false (sAt (offS (E0.a 5)) i)):IK E0 0 E:= .inl ⟨rfl,i,hR,hS⟩
theorem IK.mk1 (hR:RK E0 E i) (hS:SK E true (sAt (offS (E0.a 5)) i)):IK E0 1 E:= .inr (.inl ⟨rfl,i,hR,hS⟩)
theorem IK.mk2 {q:Nat} (hR:RK E0 E i) (hS:SK E true (sAt (offS (E0.a 5)) (i+1))) (hI:InK E0 E i q):IK E0 2 E:= .inr (.inr ⟨rfl,i,q,hR,hS,hI⟩)
structure PK (E0:Env):Prop where
 n0:0≤E0.i 60
 n1:E0.i 60≤60
 S:SOk0 (E0.a 5) (E0.i 60).toNat
theorem pre8k {sp:Bool} (hE:E.fn=fns) (hF:Facts E (ct8k sp).pre):PK E:=by
 have hF':Facts E [((.le (.c 0) (.v 60)),true),((.le (.v 60) (.c 60)),true),((.ap 13 (.a (.v 5) (.i (.v 60) .nil))),true)]:=hF
 simp only [facts_cons,facts_nil,le_t,d_c,d_v,and_true] at hF'
 obtain ⟨a1,a2,a3⟩:=hF'
 refine ⟨a1,a2,?_⟩
 have e':E.fn.g 13 [.a ((AE.v 5).den E),.i (E.i 60)]=true:=a3
 rw [hE] at e'
 have e2: @decide (SOk0 ((AE.v 5).den E) (E.i 60).toNat) (Classical.propDecidable _)=true:=e'
 exact @of_decide_eq_true _ (Classical.propDecidable _) e2
theorem pf_ofK {sp k:Bool} {s:St} {top:Int} {j:Nat} (hE:E.fn=fns) (hF0:Facts E0 (ct8k sp).pre) (hR:RK E0 E i) (hS:SK E k s) (hj:j≤60) (h:Inv s j top):Facts E (pf8k sp):=by
 have hi:=hR.i110
 have hle:=hR.le
 have a1:0≤E0.i 60:=of_decide_eq_true (hF0 (.le (.c 0) (.v 60),true) (by cases sp<;>simp [ct8k,bd]))
 have a2:E0.i 60≤60:=of_decide_eq_true (hF0 (.le (.v 60) (.c 60),true) (by cases sp<;>simp [ct8k,bd]))
 have hn:=hS.n
 have h1:=h.n1
 have n0:=hS.n0
 have q0:s.c0=E.i 131:=congrArg KS.c0 hS.e
 have q1:s.c1=E.i 132:=congrArg KS.c1 hS.e
 have qe:s.ce=E.i 133:=congrArg KS.ce hS.e
 have qn:s.nw=E.b 100:=congrArg KS.nw hS.e
 have h7:=h.c0;have h8:=h.c1;have h9:=h.ce
 rw [q0] at h7;rw [q1] at h8;rw [qe] at h9
 have h15:=h.nw
 rw [qn,hn] at h15
 have hrg:Rg (E.a 100) (E.i 100).toNat:=by
  rw [←hn]
  by_cases hz:s.n=0
  ·rw [hz];exact ⟨fun q hq=>absurd hq (Nat.not_lt_zero _),fun q q' _ hq=>absurd hq (Nat.not_lt_zero _),fun q hq=>absurd hq (Nat.not_lt_zero _),fun q hq=>absurd hq (Nat.not_lt_zero _)⟩
  ·rw [←hS.a hz];exact h.rg
 have hor:(orB (.not (.v 100)) (.le (.c 1) (.v 100))).den E=true:=by
  show (!(!(!E.b 100)&&!decide (1≤E.i 100)))=true
  cases hb:E.b 100
  ·rfl
  ·have:=h15 hb
   rw [decide_eq_true (show 1≤E.i 100 by omega)];rfl
 have hrgF:=of_rg hE (.v 100) (.v 100) (by
  show Rg ((AE.v 100).den E) (E.i 100).toNat
  rw [show (AE.v 100).den E=E.a 100 from by funext t;simp only [AE.den]];exact hrg)
 refine facts_append (facts_append (facts_append (facts_append (facts_append (facts_append (hR.ag.facts (by cases sp<;>decide) hF0) ?_) ?_) ?_) ?_) ?_) ?_
 all_goals first
  |(simp only [bd,facts_cons,facts_nil,le_t,d_c,d_v,and_true];omega)
  |skip
 intro q hq
 simp only [List.mem_cons,List.not_mem_nil,or_false] at hq
 rcases hq with rfl|rfl
 ·exact hrgF
 ·exact hor
theorem rd_ofK {s:St} {top:Int} {j:Nat} (hE:E.fn=fns) (hS:SK E true s) (h:Inv s j top):Facts E rdF8:=by
 have qk:s.k=true:=congrArg KS.k hS.e
 have qm:s.m=(E.i 140).toNat:=congrArg KS.m hS.e
 have qB:s.B=E.a 102:=congrArg KS.B hS.e
 obtain ⟨a,b,c⟩:=h.k qk
 rw [qm] at a b c
 rw [qB] at c
 have m0:=hS.m0 rfl
 refine facts_append (by simp only [bd,facts_cons,facts_nil,le_t,d_c,d_v,and_true];omega) ?_
 intro q hq
 simp only [List.mem_cons,List.not_mem_nil,or_false] at hq
 subst hq
 show E.fn.g 2 [.a ((AE.v 102).den E),.i (E.i 140)]=true
 rw [hE,show (AE.v 102).den E=E.a 102 from by funext t;simp only [AE.den]]
 show @decide (RgD (E.a 102) (E.i 140).toNat) (Classical.propDecidable _)=true
 exact @decide_eq_true _ (Classical.propDecidable _) c
theorem ks_k {S:Nat→Int} {n:Nat} (hS:SOk0 S n) (hn:n≤60) {j:Nat} (hj:j≤n):(colL0 S j).toNat*2≤128:=sAt_k hS.off (by omega) hj
structure CK (E0 E:Env) (i:Nat) (k:Bool) (b:Nat):Prop where
 h0:E0.fn=fns
 hE:E.fn=fns
 P:PK E0
 R:RK E0 E i
 S:SK E k (sAt (offS (E0.a 5)) i)
 I:Inv (sAt (offS (E0.a 5)) i) i (topA (offS (E0.a 5)) i)
 b:b=(E0.i 60 - E.i 110).toNat*200+100
section
variable {k:Bool} {b:Nat}
theorem CK.at0 (c:CK E0 E i k b):rs0.den E=kdA (offS (E0.a 5)) i:=by
 rw [(off_c _ i).1]
 show E.a 5 (E.i 110*6).toNat=E0.a 5 (i*6)
 rw [c.R.ag.a 5 (by decide),c.R.i110,show ((i:Int)*6).toNat=i*6 by omega]
theorem CK.at' (c:CK E0 E i k b) (j:Nat):(rsE j).den E=E0.a 5 (i*6+j):=by
 show E.a 5 (E.i 110*6+(j:Int)).toNat=_
 rw [c.R.ag.a 5 (by decide),c.R.i110,show ((i:Int)*6+(j:Int)).toNat=i*6+j by omega]
theorem CK.ec (c:CK E0 E i k b):(rsE 1).den E=ecA (offS (E0.a 5)) i:=(c.at' 1).trans (off_c _ i).2.1.symm
theorem CK.pn (c:CK E0 E i k b):(rsE 2).den E=pnA (offS (E0.a 5)) i:=(c.at' 2).trans (off_c _ i).2.2.1.symm
theorem CK.tm (c:CK E0 E i k b):(rsE 3).den E=tmA (offS (E0.a 5)) i:=(c.at' 3).trans (off_c _ i).2.2.2.1.symm
theorem CK.el (c:CK E0 E i k b):elA (offS (E0.a 5)) i=!(SB.eq (rsE 4) (.c 0)).den E:=by
 rw [(off_c _ i).2.2.2.2.1]
 show (!(E0.a 5 (i*6+4)==0))=!((rsE 4).den E==0)
 rw [show (rsE 4).den E=_ from c.at' 4]
theorem CK.lt (c:CK E0 E i k b) (h:(SB.lt (.v 110) (.v 60)).den E=true):i<(E0.i 60).toNat:=by
 have h1:E.i 110<E.i 60:=lt_t.1 h
 have h2:=c.R.ag.i 60 (by decide)
 have h3:=c.R.i110
 omega
theorem CK.kd (c:CK E0 E i k b) {n:Int} (h:(SB.eq rs0 (.c n)).den E=true):kdA (offS (E0.a 5)) i=n:=by
 rw [←c.at0];exact eq_t.1 h
theorem CK.nk (c:CK E0 E i k b) {n:Int} (h:(SB.eq rs0 (.c n)).den E=false):kdA (offS (E0.a 5)) i≠n:=by
 rw [←c.at0];exact eq_f.1 h
theorem CK.old (c:CK E0 E i k b) (hlt:i<(E0.i 60).toNat):isOld (sAt (offS (E0.a 5)) i) (pnA (offS (E0.a 5)) i)=memS.den E:=by
 unfold isOld
 have h1:=(c.P.S.off.pn i hlt).1
 rw [db_k c.P.S i (by omega),c.S.mem,memS_den c.hE,←c.pn,decide_eq_false (by rw [c.pn];omega)]
 rfl
theorem CK.asks (c:CK E0 E i k b):asks (sAt (offS (E0.a 5)) i) (tmA (offS (E0.a 5)) i) (onA (offS (E0.a 5)) i)=E.b 100:=by
 rw [(off_c _ i).2.2.2.2.2,←show (sAt (offS (E0.a 5)) i).nw=E.b 100 from congrArg KS.nw c.S.e]
 unfold Ytgianhjmjiiadaa.asks
 rw [Bool.false_and,Bool.not_false,Bool.and_true]
theorem CK.dead1 (c:CK E0 E i k b) (h:(SB.and (.v 100) (.not (.le (.c 1) (.v 100)))).den E=true):False:=by
 have h':(E.b 100&&!decide (1≤E.i 100))=true:=h
 rw [Bool.and_eq_true] at h'
 have h1:=c.I.nw (by rw [show (sAt (offS (E0.a 5)) i).nw=E.b 100 from congrArg KS.nw c.S.e];exact h'.1)
 rw [c.S.n] at h1
 rw [decide_eq_true (show 1≤E.i 100 by omega)] at h'
 exact absurd h'.2 (by decide)
theorem CK.fin (c:CK E0 E i k b) (hlt:i<(E0.i 60).toNat) {E':Env} (f w:SB) (a x y z l:SE) (Q:AE) (hag:AgP 100 E0 E') (h110:E'.i 110=E.i 110+1)
 (h120:E'.a 120=(AE.tl (.v 120) (.mul (.v 110) (.c 8)) (.b f (.b w (.i (.c 0) (.i (.c 0) (.i a (.i x (.i y (.i z .nil))))))))).den E) {d0:Int}
 (hsay:Say (offS (E0.a 5)) i (f.den E) (w.den E) d0 (a.den E) (x.den E) (y.den E) (z.den E))
 (h122:E'.a 122=(AE.tl (.v 122) (.v 110) (.i l .nil)).den E) (hl:l.den E=colL0 (E0.a 5) i)
 (h124:E'.a 124=(AE.ap 1 (.a (.v 124) (.i (.mul (.v 110) (.c 128)) (.a Q .nil)))).den E) (hQ: ∀u,u<(colL0 (E0.a 5) i).toNat*2→Q.den E u=colC0 (E0.a 5) (i*128+u)):RK E0 E' (i+1):=by
 have h8:((SE.mul (.v 110) (.c 8)).den E).toNat=i*8:=by
  show (E.i 110*8).toNat=_
  rw [c.R.i110];omega
 have h1:((SE.v 110).den E).toNat=i:=by
  show (E.i 110).toNat=_
  rw [c.R.i110];omega
 have h128:((SE.mul (.v 110) (.c 128)).den E).toNat=i*128:=by
  show (E.i 110*128).toNat=_
  rw [c.R.i110];omega
 exact c.R.next hlt hag h110 (fun t=>by rw [h120];exact tlE h8 t) (hsay.nth0 rfl rfl) (fun t=>by rw [h122];exact tlE h1 t) hl (fun t=>by rw [h124];exact catE c.hE h128 t) hQ (fun j hj=>ks_k c.P.S (by have:=c.P.n1;omega) (Nat.le_trans hj c.R.le))
theorem CK.mu (c:CK E0 E i k b) (hlt:i<(E0.i 60).toNat) {E':Env} (h110:E'.i 110=E.i 110+1) {j:Nat} (hj:j<2):mu8 E0 j E'<b:=by
 rw [c.b]
 unfold mu8
 rw [if_neg (by omega),h110,c.R.i110]
 omega
end
end
end Go.Proofs.Ytgianhjmjiiadaa
end
