/- The steps that bytes make: the contract holds. -/
import Derived.Test.YtgianhjmjiiadaaQmAc
import Derived.Test.YtgianhjmjiiadaaQmE
import Derived.Test.YtgianhjmjiiadaaQmTb
import Derived.KernelRfl
section
set_option autoImplicit true
set_option relaxedAutoImplicit true
set_option linter.unusedVariables false
set_option linter.unusedSimpArgs false
set_option maxRecDepth 100000
set_option maxHeartbeats 4000000
namespace Go.Proofs.Ytgianhjmjiiadaa
open Go Go.Sy Go.RowKit
section
noncomputable def h6ax0:Vl:= .go 0 [(131,(.c 0)),(130,(.c 0)),(134,(.c (-1))),(133,(.c 0)),(132,(.c 1000000))] [] [] [((.le (.c 0) (.v 30)),true),((.le (.v 30) (.c 2)),true),((.le (.c 0) (.v 1)),true),((.le (.v 1) (.v 3)),true),((.ap 16 (.a (.v 0) (.i (.v 1) .nil))),true),((.le (.v 1) (.c 2147483647)),true)] (.code (.loop (loopB (prm6 Try.prog).P 6 4))) (loopK (prm6 Try.prog).P 6 4)
noncomputable def h6als:List Vl:=[h6ax0]
theorem h6arun:(run (prm6 Try.prog) 900 (enterD (prm6 Try.prog) ct6)).map (vOf (prm6 Try.prog) ct6 (pts6 Try.prog))=h6als:=by kernel_rfl
noncomputable def h6p0e0:SE:= .add (.v 131) (.c 1)
noncomputable def h6p0e1:SE:= .add (.v 130) (.c 3)
noncomputable def h6p0e2:SE:= .add (.v 130) (.c 1)
noncomputable def h6p0e3:SE:= .rd (.v 0) h6p0e2
noncomputable def h6p0e4:SE:= .add (.v 130) (.c 2)
noncomputable def h6p0e5:SE:= .rd (.v 0) h6p0e4
noncomputable def h6p0e6:SE:= .mul (.c 3) h6p0e5
noncomputable def h6p0e7:SE:= .tmod h6p0e6 (.c 97)
noncomputable def h6p0e8:SE:= .add h6p0e3 h6p0e7
noncomputable def h6p0e9:SE:= .tmod h6p0e8 (.c 100)
noncomputable def h6p0e10:SE:= .add h6p0e9 (.c 100)
noncomputable def h6p0e11:SE:= .tmod h6p0e10 (.c 100)
noncomputable def h6p0e12:SE:= .tmod h6p0e5 (.c 11)
noncomputable def h6p0e13:SE:= .mul h6p0e12 (.c 1000000)
noncomputable def h6p0e14:SE:= .add (.v 132) h6p0e13
noncomputable def h6p0e15:SE:= .mul (.v 131) (.c 6)
noncomputable def h6p0e16:SE:= .tdiv h6p0e5 (.c 11)
noncomputable def h6p0e17:SE:= .tmod h6p0e16 (.c 4)
noncomputable def h6p0e18:SE:= .tmod h6p0e3 (.c 4)
noncomputable def h6p0e19:SE:= .tmod h6p0e3 (.c 3)
noncomputable def h6p0e20:AE:= .tl (.v 121) h6p0e15 (.i (.c 1) (.i h6p0e17 (.i h6p0e11 (.i h6p0e14 (.b (.lt (.c 0) h6p0e18) (.b (.lt (.c 0) h6p0e19) .nil))))))
noncomputable def h6p0e21:AE:= .tl (.v 0) (.c 0) (.i (.c 0) (.i (.c 0) (.i (.c 0) (.i (.c 0) (.i (.c 0) (.i (.c 0) (.i (.c 1) (.i (.c 1) (.i (.c 2) (.i (.c 3) (.i (.c 4) (.i (.c 0) .nil))))))))))))
noncomputable def h6p0e22:SE:= .rd (.v 0) (.v 130)
noncomputable def h6p0e23:SE:= .tmod h6p0e22 (.c 12)
noncomputable def h6p0e24:SE:= .rd h6p0e21 h6p0e23
noncomputable def h6p0e25:SE:= .tdiv h6p0e3 (.c 12)
noncomputable def h6p0e26:SE:= .tmod h6p0e25 (.c 6)
noncomputable def h6p0e27:SE:= .tmod h6p0e3 (.c 2)
noncomputable def h6p0e28:SE:= .tmod h6p0e3 (.c 20)
noncomputable def h6p0e29:AE:= .tl (.v 121) h6p0e15 (.i (.c 3) (.i h6p0e17 (.i h6p0e28 (.i h6p0e14 (.b (.lt (.c 0) h6p0e18) (.b (.lt (.c 0) h6p0e19) .nil))))))
noncomputable def h6p0e30:AE:= .tl (.v 121) h6p0e15 (.i h6p0e24 (.i h6p0e17 (.i h6p0e28 (.i h6p0e14 (.b (.lt (.c 0) h6p0e18) (.b (.lt (.c 0) h6p0e19) .nil))))))
noncomputable def h6p0e31:AE:= .tl (.v 121) h6p0e15 (.i h6p0e24 (.i h6p0e17 (.i h6p0e11 (.i h6p0e14 (.b (.lt (.c 0) h6p0e18) (.b (.lt (.c 0) h6p0e19) .nil))))))
noncomputable def h6p0e32:SE:= .mx (.v 134) h6p0e11
noncomputable def h6p0e33:SE:= .add (.v 133) (.c 2)
noncomputable def h6p0e34:SE:= .tmod h6p0e33 (.c 100)
noncomputable def h6p0e35:SE:= .add h6p0e34 (.c 100)
noncomputable def h6p0e36:SE:= .tmod h6p0e35 (.c 100)
noncomputable def h6p0e37:AE:= .tl (.v 121) h6p0e15 (.i (.c 1) (.i h6p0e17 (.i h6p0e36 (.i h6p0e14 (.b (.lt (.c 0) h6p0e18) (.b (.lt (.c 0) h6p0e19) .nil))))))
noncomputable def h6p0e38:AE:= .tl (.v 121) h6p0e15 (.i h6p0e24 (.i h6p0e17 (.i h6p0e36 (.i h6p0e14 (.b (.lt (.c 0) h6p0e18) (.b (.lt (.c 0) h6p0e19) .nil))))))
noncomputable def h6p0e39:SE:= .mx (.v 134) h6p0e36
noncomputable def h6p0e40:SE:= .sub (.v 133) (.c 2)
noncomputable def h6p0e41:SE:= .tmod h6p0e40 (.c 100)
noncomputable def h6p0e42:SE:= .add h6p0e41 (.c 100)
noncomputable def h6p0e43:SE:= .tmod h6p0e42 (.c 100)
noncomputable def h6p0e44:AE:= .tl (.v 121) h6p0e15 (.i (.c 1) (.i h6p0e17 (.i h6p0e43 (.i h6p0e14 (.b (.lt (.c 0) h6p0e18) (.b (.lt (.c 0) h6p0e19) .nil))))))
noncomputable def h6p0e45:AE:= .tl (.v 121) h6p0e15 (.i h6p0e24 (.i h6p0e17 (.i h6p0e43 (.i h6p0e14 (.b (.lt (.c 0) h6p0e18) (.b (.lt (.c 0) h6p0e19) .nil))))))
noncomputable def h6p0e46:SE:= .mx (.v 134) h6p0e43
noncomputable def h6p0e47:SE:= .add (.v 133) (.c 1)
noncomputable def h6p0e48:SE:= .tmod h6p0e47 (.c 100)
noncomputable def h6p0e49:SE:= .add h6p0e48 (.c 100)
noncomputable def h6p0e50:SE:= .tmod h6p0e49 (.c 100)
noncomputable def h6p0e51:AE:= .tl (.v 121) h6p0e15 (.i (.c 1) (.i h6p0e17 (.i h6p0e50 (.i h6p0e14 (.b (.lt (.c 0) h6p0e18) (.b (.lt (.c 0) h6p0e19) .nil))))))
noncomputable def h6p0e52:AE:= .tl (.v 121) h6p0e15 (.i h6p0e24 (.i h6p0e17 (.i h6p0e50 (.i h6p0e14 (.b (.lt (.c 0) h6p0e18) (.b (.lt (.c 0) h6p0e19) .nil))))))
noncomputable def h6p0e53:SE:= .mx (.v 134) h6p0e50
noncomputable def h6p0f0:Fx:=[((.le (.c 0) (.v 30)),true),((.le (.v 30) (.c 2)),true),((.le (.c 0) (.v 1)),true),((.le (.v 1) (.v 3)),true),((.ap 16 (.a (.v 0) (.i (.v 1) .nil))),true),((.le (.v 1) (.c 2147483647)),true),((.le (.c 0) (.v 130)),true),((.le (.v 130) (.c 180)),true),zbo,zbp,((.le (.c 1000000) (.v 132)),true),((.le (.v 132) (.c 700000000)),true),zbq,((.le (.v 133) (.c 99)),true),((.le (.c (-1)) (.v 134)),true),((.le (.v 134) (.c 99)),true)]
noncomputable def zc3:Fx:=((.lt h6p0e4 (.v 1)),true)::h6p0f0
noncomputable def h6p0f1:Fx:=((.lt (.v 130) (.c 180)),true)::zc3
noncomputable def zc4:Fx:=((.le (.c 0) h6p0e22),true)::h6p0f1
noncomputable def h6p0f2:Fx:=((.le h6p0e22 (.c 255)),true)::zc4
noncomputable def zc5:Fx:=((.le (.c 0) h6p0e3),true)::h6p0f2
noncomputable def h6p0f3:Fx:=((.le h6p0e3 (.c 255)),true)::zc5
noncomputable def zc6:Fx:=((.le (.c 0) h6p0e5),true)::h6p0f3
noncomputable def h6p0f4:Fx:=((.le h6p0e5 (.c 255)),true)::zc6
noncomputable def zc7:Fx:=((.lt (.v 130) (.v 1)),true)::h6p0f4
noncomputable def h6p0f5:Fx:=((.lt h6p0e2 (.v 1)),true)::zc7
noncomputable def zc8:SB×Bool:=((.eq h6p0e24 (.c 2)),true)
noncomputable def zc9:Fx:=((.eq h6p0e26 (.c 0)),true)::h6p0f5
noncomputable def h6p0f6:Fx:=zc8::zc9
noncomputable def zda:SB×Bool:=((.eq h6p0e27 (.c 0)),false)
noncomputable def h6p0f7:Fx:=zda::zbr::h6p0f6
noncomputable def zdb:SB×Bool:=((.eq h6p0e24 (.c 2)),false)
noncomputable def h6p0f8:Fx:=zdb::zc9
noncomputable def zdc:Fx:=((.eq h6p0e26 (.c 0)),false)::h6p0f5
noncomputable def h6p0f9:Fx:=((.eq h6p0e26 (.c 1)),true)::zdc
noncomputable def h6p0f10:Fx:=zbr::zc8::h6p0f9
noncomputable def zdd:SB×Bool:=((.eq h6p0e24 (.c 4)),true)
noncomputable def h6p0f11:Fx:=zdd::zdb::h6p0f9
noncomputable def zde:SB×Bool:=((.eq h6p0e24 (.c 4)),false)
noncomputable def h6p0f12:Fx:=zde::zdb::h6p0f9
noncomputable def h6p0f13:Fx:=((.eq h6p0e26 (.c 1)),false)::zdc
noncomputable def zdf:Fx:=((.eq h6p0e26 (.c 2)),true)::h6p0f13
noncomputable def h6p0f14:Fx:=zc8::zdf
noncomputable def h6p0f15:Fx:=zda::zbr::h6p0f14
noncomputable def h6p0f16:Fx:=zdb::zdf
noncomputable def zdg:Fx:=((.eq h6p0e26 (.c 2)),false)::h6p0f13
noncomputable def h6p0f17:Fx:=zc8::zdg
noncomputable def h6p0f18:Fx:=zda::zbr::h6p0f17
noncomputable def h6p0f19:Fx:=zdb::zdg
noncomputable def zdh:List (Nat×SE):=[(131,h6p0e0),(130,h6p0e1),(133,h6p0e11),(132,h6p0e14)]
noncomputable def h6p0x0:Vl:= .go 0 zdh [] [(121,h6p0e20)] (zbs::h6p0f6) (.exit .normal) (.loop (loopB (prm6 Try.prog).P 6 4)::loopK (prm6 Try.prog).P 6 4)
noncomputable def zdi:SB×Bool:=((.eq h6p0e27 (.c 0)),true)
noncomputable def h6p0x1:Vl:= .go 0 zdh [] [(121,h6p0e20)] (zdi::zbr::h6p0f6) (.exit .normal) (.loop (loopB (prm6 Try.prog).P 6 4)::loopK (prm6 Try.prog).P 6 4)
noncomputable def zdj:SB×Bool:=((.lt (.v 134) h6p0e28),true)
noncomputable def h6p0x2:Vl:= .go 0 zdh [] [(121,h6p0e29)] (zdj::h6p0f7) (.exit .normal) (.loop (loopB (prm6 Try.prog).P 6 4)::loopK (prm6 Try.prog).P 6 4)
noncomputable def zdk:SB×Bool:=((.lt (.v 134) h6p0e28),false)
noncomputable def h6p0x3:Vl:= .go 0 zdh [] [(121,h6p0e30)] (zdk::h6p0f7) (.exit .normal) (.loop (loopB (prm6 Try.prog).P 6 4)::loopK (prm6 Try.prog).P 6 4)
noncomputable def h6p0x4:Vl:= .go 0 zdh [] [(121,h6p0e20)] (zbs::zdd::h6p0f8) (.exit .normal) (.loop (loopB (prm6 Try.prog).P 6 4)::loopK (prm6 Try.prog).P 6 4)
noncomputable def h6p0x5:Vl:= .go 0 zdh [] [(121,h6p0e31)] (zbr::zdd::h6p0f8) (.exit .normal) (.loop (loopB (prm6 Try.prog).P 6 4)::loopK (prm6 Try.prog).P 6 4)
noncomputable def zdl:SB×Bool:=((.eq h6p0e24 (.c 0)),true)
noncomputable def h6p0x6:Vl:= .go 0 [(131,h6p0e0),(130,h6p0e1),(134,h6p0e32),(133,h6p0e11),(132,h6p0e14)] [] [(121,h6p0e31)] (zdl::zde::h6p0f8) (.exit .normal) (.loop (loopB (prm6 Try.prog).P 6 4)::loopK (prm6 Try.prog).P 6 4)
noncomputable def zdm:SB×Bool:=((.eq h6p0e24 (.c 0)),false)
noncomputable def h6p0x7:Vl:= .go 0 zdh [] [(121,h6p0e31)] (zdm::zde::h6p0f8) (.exit .normal) (.loop (loopB (prm6 Try.prog).P 6 4)::loopK (prm6 Try.prog).P 6 4)
noncomputable def zdn:List (Nat×SE):=[(131,h6p0e0),(130,h6p0e1),(133,h6p0e36),(132,h6p0e14)]
noncomputable def h6p0x8:Vl:= .go 0 zdn [] [(121,h6p0e37)] (zbs::zc8::h6p0f9) (.exit .normal) (.loop (loopB (prm6 Try.prog).P 6 4)::loopK (prm6 Try.prog).P 6 4)
noncomputable def h6p0x9:Vl:= .go 0 zdn [] [(121,h6p0e37)] (zdi::h6p0f10) (.exit .normal) (.loop (loopB (prm6 Try.prog).P 6 4)::loopK (prm6 Try.prog).P 6 4)
noncomputable def h6p0x10:Vl:= .go 0 zdn [] [(121,h6p0e29)] (zdj::zda::h6p0f10) (.exit .normal) (.loop (loopB (prm6 Try.prog).P 6 4)::loopK (prm6 Try.prog).P 6 4)
noncomputable def h6p0x11:Vl:= .go 0 zdn [] [(121,h6p0e30)] (zdk::zda::h6p0f10) (.exit .normal) (.loop (loopB (prm6 Try.prog).P 6 4)::loopK (prm6 Try.prog).P 6 4)
noncomputable def h6p0x12:Vl:= .go 0 zdn [] [(121,h6p0e37)] (zbs::h6p0f11) (.exit .normal) (.loop (loopB (prm6 Try.prog).P 6 4)::loopK (prm6 Try.prog).P 6 4)
noncomputable def h6p0x13:Vl:= .go 0 zdn [] [(121,h6p0e38)] (zbr::h6p0f11) (.exit .normal) (.loop (loopB (prm6 Try.prog).P 6 4)::loopK (prm6 Try.prog).P 6 4)
noncomputable def h6p0x14:Vl:= .go 0 [(131,h6p0e0),(130,h6p0e1),(134,h6p0e39),(133,h6p0e36),(132,h6p0e14)] [] [(121,h6p0e38)] (zdl::h6p0f12) (.exit .normal) (.loop (loopB (prm6 Try.prog).P 6 4)::loopK (prm6 Try.prog).P 6 4)
noncomputable def h6p0x15:Vl:= .go 0 zdn [] [(121,h6p0e38)] (zdm::h6p0f12) (.exit .normal) (.loop (loopB (prm6 Try.prog).P 6 4)::loopK (prm6 Try.prog).P 6 4)
noncomputable def zdo:List (Nat×SE):=[(131,h6p0e0),(130,h6p0e1),(133,h6p0e43),(132,h6p0e14)]
noncomputable def h6p0x16:Vl:= .go 0 zdo [] [(121,h6p0e44)] (zbs::h6p0f14) (.exit .normal) (.loop (loopB (prm6 Try.prog).P 6 4)::loopK (prm6 Try.prog).P 6 4)
noncomputable def h6p0x17:Vl:= .go 0 zdo [] [(121,h6p0e44)] (zdi::zbr::h6p0f14) (.exit .normal) (.loop (loopB (prm6 Try.prog).P 6 4)::loopK (prm6 Try.prog).P 6 4)
noncomputable def h6p0x18:Vl:= .go 0 zdo [] [(121,h6p0e29)] (zdj::h6p0f15) (.exit .normal) (.loop (loopB (prm6 Try.prog).P 6 4)::loopK (prm6 Try.prog).P 6 4)
noncomputable def h6p0x19:Vl:= .go 0 zdo [] [(121,h6p0e30)] (zdk::h6p0f15) (.exit .normal) (.loop (loopB (prm6 Try.prog).P 6 4)::loopK (prm6 Try.prog).P 6 4)
noncomputable def h6p0x20:Vl:= .go 0 zdo [] [(121,h6p0e44)] (zbs::zdd::h6p0f16) (.exit .normal) (.loop (loopB (prm6 Try.prog).P 6 4)::loopK (prm6 Try.prog).P 6 4)
noncomputable def h6p0x21:Vl:= .go 0 zdo [] [(121,h6p0e45)] (zbr::zdd::h6p0f16) (.exit .normal) (.loop (loopB (prm6 Try.prog).P 6 4)::loopK (prm6 Try.prog).P 6 4)
noncomputable def h6p0x22:Vl:= .go 0 [(131,h6p0e0),(130,h6p0e1),(134,h6p0e46),(133,h6p0e43),(132,h6p0e14)] [] [(121,h6p0e45)] (zdl::zde::h6p0f16) (.exit .normal) (.loop (loopB (prm6 Try.prog).P 6 4)::loopK (prm6 Try.prog).P 6 4)
noncomputable def h6p0x23:Vl:= .go 0 zdo [] [(121,h6p0e45)] (zdm::zde::h6p0f16) (.exit .normal) (.loop (loopB (prm6 Try.prog).P 6 4)::loopK (prm6 Try.prog).P 6 4)
noncomputable def zdp:List (Nat×SE):=[(131,h6p0e0),(130,h6p0e1),(133,h6p0e50),(132,h6p0e14)]
noncomputable def h6p0x24:Vl:= .go 0 zdp [] [(121,h6p0e51)] (zbs::h6p0f17) (.exit .normal) (.loop (loopB (prm6 Try.prog).P 6 4)::loopK (prm6 Try.prog).P 6 4)
noncomputable def h6p0x25:Vl:= .go 0 zdp [] [(121,h6p0e51)] (zdi::zbr::h6p0f17) (.exit .normal) (.loop (loopB (prm6 Try.prog).P 6 4)::loopK (prm6 Try.prog).P 6 4)
noncomputable def h6p0x26:Vl:= .go 0 zdp [] [(121,h6p0e29)] (zdj::h6p0f18) (.exit .normal) (.loop (loopB (prm6 Try.prog).P 6 4)::loopK (prm6 Try.prog).P 6 4)
noncomputable def h6p0x27:Vl:= .go 0 zdp [] [(121,h6p0e30)] (zdk::h6p0f18) (.exit .normal) (.loop (loopB (prm6 Try.prog).P 6 4)::loopK (prm6 Try.prog).P 6 4)
noncomputable def h6p0x28:Vl:= .go 0 zdp [] [(121,h6p0e51)] (zbs::zdd::h6p0f19) (.exit .normal) (.loop (loopB (prm6 Try.prog).P 6 4)::loopK (prm6 Try.prog).P 6 4)
noncomputable def h6p0x29:Vl:= .go 0 zdp [] [(121,h6p0e52)] (zbr::zdd::h6p0f19) (.exit .normal) (.loop (loopB (prm6 Try.prog).P 6 4)::loopK (prm6 Try.prog).P 6 4)
noncomputable def h6p0x30:Vl:= .go 0 [(131,h6p0e0),(130,h6p0e1),(134,h6p0e53),(133,h6p0e50),(132,h6p0e14)] [] [(121,h6p0e52)] (zdl::zde::h6p0f19) (.exit .normal) (.loop (loopB (prm6 Try.prog).P 6 4)::loopK (prm6 Try.prog).P 6 4)
noncomputable def h6p0x31:Vl:= .go 0 zdp [] [(121,h6p0e52)] (zdm::zde::h6p0f19) (.exit .normal) (.loop (loopB (prm6 Try.prog).P 6 4)::loopK (prm6 Try.prog).P 6 4)
noncomputable def h6p0x32:Vl:= .dead (((.lt h6p0e2 (.v 1)),false)::zc7)
noncomputable def h6p0x33:Vl:= .dead (((.lt (.v 130) (.v 1)),false)::h6p0f4)
noncomputable def h6p0x34:Vl:= .dead (((.le h6p0e5 (.c 255)),false)::zc6)
noncomputable def h6p0x35:Vl:= .dead (((.le (.c 0) h6p0e5),false)::h6p0f3)
noncomputable def h6p0x36:Vl:= .dead (((.le h6p0e3 (.c 255)),false)::zc5)
noncomputable def h6p0x37:Vl:= .dead (((.le (.c 0) h6p0e3),false)::h6p0f2)
noncomputable def h6p0x38:Vl:= .dead (((.le h6p0e22 (.c 255)),false)::zc4)
noncomputable def h6p0x39:Vl:= .dead (((.le (.c 0) h6p0e22),false)::h6p0f1)
noncomputable def h6p0x40:Vl:= .out 0 [.a (.v 0) (.v 0) (.v 1) 1,.i (.v 1) (.v 1),.a (.v 121) (.v 500) (.v 500) 6,.i (.v 131) (.v 500)] (((.lt (.v 130) (.c 180)),false)::zc3)
noncomputable def h6p0x41:Vl:= .out 0 [.a (.v 0) (.v 0) (.v 1) 1,.i (.v 1) (.v 1),.a (.v 121) (.v 500) (.v 500) 6,.i (.v 131) (.v 500)] (((.lt h6p0e4 (.v 1)),false)::h6p0f0)
noncomputable def h6p0ls:List Vl:=[h6p0x0,h6p0x1,h6p0x2,h6p0x3,h6p0x4,h6p0x5,h6p0x6,h6p0x7,h6p0x8,h6p0x9,h6p0x10,h6p0x11,h6p0x12,h6p0x13,h6p0x14,h6p0x15,h6p0x16,h6p0x17,h6p0x18,h6p0x19,h6p0x20,h6p0x21,h6p0x22,h6p0x23,h6p0x24,h6p0x25,h6p0x26,h6p0x27,h6p0x28,h6p0x29,h6p0x30,h6p0x31,h6p0x32,h6p0x33,h6p0x34,h6p0x35,h6p0x36,h6p0x37,h6p0x38,h6p0x39,h6p0x40,h6p0x41]
theorem h6p0run:(run (prm6 Try.prog) 900 (ptD (pts6 Try.prog) 0 6)).map (vOf (prm6 Try.prog) ct6 (pts6 Try.prog))=h6p0ls:=by kernel_rfl
section
variable {S S':Nat→Int} {n:Nat} {sp:Int}
theorem top_ag (hag: ∀t,t<n*6→S' t=S t): ∀i,i≤n→topA S' i=topA S i
 |0,_=>rfl
 |i+1,hi=>by
  have e0:kdA S' i=kdA S i:=hag _ (by omega)
  have e2:pnA S' i=pnA S i:=hag _ (by omega)
  simp only [topA,e0,e2,top_ag hag i (by omega)]
theorem STok.snoc (h:STok S n sp) (hag: ∀t,t<n*6→S' t=S t) (kd:0≤kdA S' n∧kdA S' n≤4) (ec:0≤ecA S' n∧ecA S' n≤3) (pn:0≤pnA S' n∧pnA S' n≤99) (tm:1000000≤tmA S' n∧tmA S' n≤1000000000)
 (mono: ∀i,i<n→tmA S i≤tmA S' n) (ig:kdA S' n=2→pnA S' n≤topA S n∧sp=2) (k4:kdA S' n=4→sp=2):STok S' (n+1) sp:=by
 have e0: ∀i,i<n→kdA S' i=kdA S i:=fun i hi=>hag _ (by omega)
 have e1: ∀i,i<n→ecA S' i=ecA S i:=fun i hi=>hag _ (by omega)
 have e2: ∀i,i<n→pnA S' i=pnA S i:=fun i hi=>hag _ (by omega)
 have e3: ∀i,i<n→tmA S' i=tmA S i:=fun i hi=>hag _ (by omega)
 have c: ∀i,i<n+1→i<n∨i=n:=fun i hi=>by omega
 refine ⟨fun i hi=>?_,fun i hi=>?_,fun i hi=>?_,fun i hi=>?_,fun i j hij hj=>?_,fun i hi=>?_,fun i hi=>?_⟩
 ·rcases c i hi with h1|rfl
  ·rw [e0 i h1];exact h.kd i h1
  ·exact kd
 ·rcases c i hi with h1|rfl
  ·rw [e1 i h1];exact h.ec i h1
  ·exact ec
 ·rcases c i hi with h1|rfl
  ·rw [e2 i h1];exact h.pn i h1
  ·exact pn
 ·rcases c i hi with h1|rfl
  ·rw [e3 i h1];exact h.tm i h1
  ·exact tm
 ·rcases c j hj with h1|rfl
  ·rw [e3 j h1,e3 i (by omega)];exact h.mono i j hij h1
  ·rcases Nat.lt_or_ge i j with h2|h2
   ·rw [e3 i h2];exact mono i h2
   ·have:i=j:=by omega
    rw [this];exact Int.le_refl _
 ·rcases c i hi with h1|rfl
  ·rw [e0 i h1,e2 i h1,top_ag hag i (by omega)];exact h.ig i h1
  ·rw [top_ag hag i (by omega)];exact ig
 ·rcases c i hi with h1|rfl
  ·rw [e0 i h1];exact h.k4 i h1
  ·exact k4
theorem STok.zero (S:Nat→Int) (sp:Int):STok S 0 sp:=⟨fun i hi=>absurd hi (Nat.not_lt_zero _),fun i hi=>absurd hi (Nat.not_lt_zero _),fun i hi=>absurd hi (Nat.not_lt_zero _),fun i hi=>absurd hi (Nat.not_lt_zero _),fun i j _ hj=>absurd hj (Nat.not_lt_zero _),fun i hi=>absurd hi (Nat.not_lt_zero _),fun i hi=>absurd hi (Nat.not_lt_zero _)⟩
end
structure I6 (E0 E:Env) (n:Nat):Prop where
 ag:AgP 100 E0 E
 i131:E.i 131=n
 i130:E.i 130=(n:Int)*3
 le:n≤60
 at0:1000000≤E.i 132
 at1:E.i 132≤1000000+(n:Int)*10000000
 nx:0≤E.i 133∧E.i 133≤99
 top:E.i 134=topA (E.a 121) n
 tb: -1≤E.i 134∧E.i 134≤99
 S:STok (E.a 121) n (E0.i 30)
 last: ∀i,i<n→tmA (E.a 121) i≤E.i 132
theorem I6.step {E0 E E':Env} {n:Nat} (h:I6 E0 E n) (hlt:n<60) (hag:AgP 100 E0 E') {k e p t:SE} {el on:SB} (h131:E'.i 131=E.i 131+1) (h130:E'.i 130=E.i 130+3)
 (h121:E'.a 121=(AE.tl (.v 121) (.mul (.v 131) (.c 6)) (.i k (.i e (.i p (.i t (.b el (.b on .nil))))))).den E) (kd:0≤k.den E∧k.den E≤4) (ec:0≤e.den E∧e.den E≤3) (pn:0≤p.den E∧p.den E≤99)
 (tm:E.i 132≤t.den E∧t.den E≤E.i 132+10000000) (h132:E'.i 132=t.den E) (h133:0≤E'.i 133∧E'.i 133≤99) (h134:E'.i 134=if k.den E=0 then max (E.i 134) (p.den E) else E.i 134)
 (ig:k.den E=2→p.den E≤E.i 134∧E0.i 30=2) (k4:k.den E=4→E0.i 30=2):I6 E0 E' (n+1):=by
 have hm:((SE.mul (.v 131) (.c 6)).den E).toNat=n*6:=by
  show (E.i 131*6).toNat=_
  rw [h.i131];omega
 have hS: ∀u,E'.a 121 u=if u<n*6 then E.a 121 u else (SL.i k (.i e (.i p (.i t (.b el (.b on .nil)))))).nth E (u - n*6):=fun u=>by rw [h121];exact tlE hm u
 have hag': ∀u,u<n*6→E'.a 121 u=E.a 121 u:=fun u hu=>by rw [hS,if_pos hu]
 have cell: ∀c,c<6→E'.a 121 (n*6+c)=(SL.i k (.i e (.i p (.i t (.b el (.b on .nil)))))).nth E c:=fun c hc=>by rw [hS,if_neg (by omega),Nat.add_sub_cancel_left]
 have ek:kdA (E'.a 121) n=k.den E:=cell 0 (by omega)
 have ee:ecA (E'.a 121) n=e.den E:=cell 1 (by omega)
 have ep:pnA (E'.a 121) n=p.den E:=cell 2 (by omega)
 have et:tmA (E'.a 121) n=t.den E:=cell 3 (by omega)
 have a0:=h.at0;have a1:=h.at1;have ht:=h.top;have htb:=h.tb;have h1:=h.i131;have h2:=h.i130
 refine ⟨hag,by rw [h131,h1];omega,by rw [h130,h2];omega,hlt,by rw [h132];omega,by rw [h132];omega,h133,?_,?_,?_,fun i hi=>?_⟩
 ·simp only [topA]
  rw [ek,ep,top_ag hag' n (Nat.le_refl _),←ht,h134]
 ·rw [h134];split<;>omega
 ·refine h.S.snoc hag' (by rw [ek];exact kd) (by rw [ee];exact ec) (by rw [ep];exact pn) (by rw [et];omega) (fun i hi=>by rw [et];have:=h.last i hi;omega) (by rw [ek,ep,←ht];exact ig) (by rw [ek];exact k4)
 ·rw [h132]
  rcases Nat.lt_or_ge i n with c|c
  ·rw [show tmA (E'.a 121) i=tmA (E.a 121) i from hag' _ (by omega)]
   have:=h.last i c;omega
  ·have:i=n:=by omega
   subst this;rw [et];exact Int.le_refl _
theorem pn_ok (x:Int):0≤((x.tmod 100+100).tmod 100)∧((x.tmod 100+100).tmod 100)≤99:=by
 have h1: -100<x.tmod 100:=by
  have:=Int.lt_tmod_of_pos x (show (0:Int)<100 by omega);omega
 rw [Int.tmod_eq_emod_of_nonneg (by omega)]
 omega
theorem md_ok {x:Int} (h:0≤x) (m:Int) (hm:0<m):0≤x.tmod m∧x.tmod m≤m - 1:=by
 rw [Int.tmod_eq_emod_of_nonneg h]
 have:=Int.emod_nonneg x (show m≠0 by omega)
 have:=Int.emod_lt_of_pos x hm
 omega
def kTab:SL:= .i (.c 0) (.i (.c 0) (.i (.c 0) (.i (.c 0) (.i (.c 0) (.i (.c 0) (.i (.c 1) (.i (.c 1) (.i (.c 2) (.i (.c 3) (.i (.c 4) (.i (.c 0) .nil)))))))))))
def kE:SE:= .rd (.tl (.v 0) (.c 0) kTab) (.tmod (.rd (.v 0) (.v 130)) (.c 12))
theorem kTab_ok (E:Env): ∀j:Nat,j<12→0≤kTab.nth E j∧kTab.nth E j≤4:=by
 intro j hj
 have:j=0∨j=1∨j=2∨j=3∨j=4∨j=5∨j=6∨j=7∨j=8∨j=9∨j=10∨j=11:=by omega
 rcases this with rfl|rfl|rfl|rfl|rfl|rfl|rfl|rfl|rfl|rfl|rfl|rfl<;>(simp [kTab,SL.nth,SE.den])
structure C6 (E0 E:Env) (n:Nat):Prop where
 h0:E0.fn=fns
 hE:E.fn=fns
 I:I6 E0 E n
 sp:0≤E0.i 30∧E0.i 30≤2
 l0:0≤E0.i 1
 by_: ∀j:Nat,(j:Int)<E0.i 1→0≤E0.a 0 j∧E0.a 0 j≤255
 b0:E.i 130<E.i 1→0≤(SE.rd (.v 0) (.v 130)).den E∧(SE.rd (.v 0) (.v 130)).den E≤255
 b1:E.i 130+1<E.i 1→0≤(SE.rd (.v 0) (.add (.v 130) (.c 1))).den E∧(SE.rd (.v 0) (.add (.v 130) (.c 1))).den E≤255
 b2:E.i 130+2<E.i 1→0≤(SE.rd (.v 0) (.add (.v 130) (.c 2))).den E∧(SE.rd (.v 0) (.add (.v 130) (.c 2))).den E≤255
theorem C6.kE (c:C6 E0 E n) (h:0≤(SE.rd (.v 0) (.v 130)).den E):0≤kE.den E∧kE.den E≤4:=by
 have h1:=md_ok h 12 (by omega)
 have e:Ytgianhjmjiiadaa.kE.den E=kTab.nth E ((SE.rd (.v 0) (.v 130)).den E |>.tmod 12).toNat:=by
  unfold Ytgianhjmjiiadaa.kE
  simp only [SE.den,AE.den,Int.toNat_zero,Nat.not_lt_zero,if_false,Nat.sub_zero]
 rw [e]
 exact kTab_ok E _ (by omega)
theorem imx_max (x y:Int):imx x y=max x y:=by unfold imx;split<;>omega
theorem out6 {E0 E:Env} {n:Nat} (hE0:E0.fn=fns) (hE:E.fn=fns) (hI:I6 E0 E n) {a:Nat} {es:List Eqn} (ha:a=0:=by rfl)
 (hes:es=[.a (.v 0) (.v 0) (.v 1) 1,.i (.v 1) (.v 1),.a (.v 121) (.v 500) (.v 500) 6,.i (.v 131) (.v 500)]:=by rfl):
 altSel E0 ct6.alts=ct6.alts[a]?∧ ∃V,(∀q∈es,q.ok E (E0.upd xb ct6.nx V))∧ ∀a',ct6.alts[a]?=some a'→Facts (E0.upd xb ct6.nx V) a'.xf:=by
 subst ha;subst hes
 obtain ⟨V,hV⟩: ∃V:Env,V={ E0 with a:=fun j=>E.a 121,i:=fun j=>E.i 131 }:=⟨_,rfl⟩
 have HU:AgE 500 E0 (E0.upd xb 1 V):=Env.upd_ag E0 xb 1 V
 have HJ:AgP 100 (E0.upd xb 1 V) E:=⟨fun j hj=>(hI.ag.i j hj).trans (HU.i j (by omega)).symm,fun j hj=>(hI.ag.b j hj).trans (HU.b j (by omega)).symm,fun j hj=>(hI.ag.a j hj).trans (HU.a j (by omega)).symm,hI.ag.fn.trans HU.fn.symm⟩
 have hEU:(E0.upd xb 1 V).fn=fns:=HU.fn.trans hE0
 have u500:(E0.upd xb 1 V).a 500=E.a 121:=by
  show (if xb≤500∧500<xb+1 then V.a (xb+(500 - xb)) else E0.a 500)=_
  rw [if_pos ⟨by decide,by decide⟩,hV]
 have v500:(E0.upd xb 1 V).i 500=E.i 131:=by
  show (if xb≤500∧500<xb+1 then V.i (xb+(500 - xb)) else E0.i 500)=_
  rw [if_pos ⟨by decide,by decide⟩,hV]
 have v30:(E0.upd xb 1 V).i 30=E0.i 30:=HU.i 30 (by decide)
 refine ⟨rfl,V,?_,fun a' ha'=>?_⟩
 ·simp only [List.forall_mem_cons,List.not_mem_nil,false_imp_iff,implies_true,and_true]
  refine ⟨Eqn.a_ag HJ _ _ _ rfl,Eqn.i_ag HJ _ rfl,fun j _=>?_,v500.symm⟩
  show (AE.v 121).den E j=(AE.v 500).den (E0.upd xb 1 V) j
  rw [show (AE.v 500).den (E0.upd xb 1 V) j=(E0.upd xb 1 V).a 500 j from by simp only [AE.den],u500]
  simp only [AE.den]
 ·cases ha'
  have h1:=hI.i131;have h2:=hI.le
  refine facts_append ?_ ?_
  ·have h3:(E0.upd xb ct6.nx V).i 500=E.i 131:=v500
   simp only [bd,facts_cons,facts_nil,le_t,d_c,d_v,and_true];omega
  ·intro q hq
   simp only [List.mem_cons,List.not_mem_nil,or_false] at hq
   subst hq
   show (E0.upd xb 1 V).fn.g 11 [.a ((AE.v 500).den (E0.upd xb 1 V)),.i ((E0.upd xb 1 V).i 500),.i ((E0.upd xb 1 V).i 30)]=true
   rw [hEU,show (AE.v 500).den (E0.upd xb 1 V)=(E0.upd xb 1 V).a 500 from by funext t;simp only [AE.den],u500,v500,v30,h1]
   show @decide (STok (E.a 121) ((n:Int)).toNat (E0.i 30)) (Classical.propDecidable _)=true
   rw [Int.toNat_natCast]
   exact @decide_eq_true _ (Classical.propDecidable _) hI.S
def rd6 (k:Int):SE:= .rd (.v 0) (if k=0 then .v 130 else .add (.v 130) (.c k))
def t6:SE:= .add (.v 132) (.mul (.tmod (rd6 2) (.c 11)) (.c 1000000))
def r6 (k p:SE):AE:= .tl (.v 121) (.mul (.v 131) (.c 6)) (.i k (.i (.tmod (.tdiv (rd6 2) (.c 11)) (.c 4)) (.i p (.i t6 (.b (.lt (.c 0) (.tmod (rd6 1) (.c 4))) (.b (.lt (.c 0) (.tmod (rd6 1) (.c 3))) .nil))))))
def md6 (x:SE):SE:= .tmod (.add (.tmod x (.c 100)) (.c 100)) (.c 100)
structure K6 (E0 E E':Env) (k p:SE):Prop where
 kd:0≤k.den E∧k.den E≤4
 pn:0≤p.den E∧p.den E≤99
 top:E'.i 134=if k.den E=0 then max (E.i 134) (p.den E) else E.i 134
 ig:k.den E=2→p.den E≤E.i 134∧E0.i 30=2
 k4:k.den E=4→E0.i 30=2
theorem go6 {E0 E:Env} {n b:Nat} (c:C6 E0 E n) (hb:b=(60 - E.i 131).toNat) {k p x:SE} {si:List (Nat×SE)} {F:Fx} (d2:dec F (.lt (.add (.v 130) (.c 2)) (.v 1))=some true) (d180:dec F (.lt (.v 130) (.c 180))=some true)
 (hK:Facts E F→0≤(rd6 0).den E→0≤(rd6 1).den E→ ∀o,K6 E0 E (E.put si [] [(121,r6 k p)] o) k p) (ag: ∀o,AgP 100 E0 (E.put si [] [(121,r6 k p)] o))
 (e: ∀o,(E.put si [] [(121,r6 k p)] o).i 131=E.i 131+1∧(E.put si [] [(121,r6 k p)] o).i 130=E.i 130+3∧(E.put si [] [(121,r6 k p)] o).i 132=t6.den E∧(E.put si [] [(121,r6 k p)] o).i 133=(md6 x).den E:=by exact fun o=>⟨rfl,rfl,rfl,rfl⟩):
 VOkX (pts6 Try.prog) ct6 (fun E0 _ E=> ∃n,I6 E0 E n) (fun _ _ E=>(60 - E.i 131).toNat) (some b) E0 E (.go 0 si [] [(121,r6 k p)] F (.exit .normal) (.loop (loopB Try.prog 6 4)::loopK Try.prog 6 4)):=by
 have hI:=c.I
 have h131:=hI.i131;have h130:=hI.i130;have e1:=hI.ag.i 1 (by decide)
 intro hf
 have h2:E.i 130+2<E.i 1:=lt_t.1 (dec_ok hf d2)
 have h180:E.i 130<180:=lt_t.1 (dec_ok hf d180)
 have q0:0≤(rd6 0).den E:=(c.b0 (by omega)).1
 have q1:0≤(rd6 1).den E:=(c.b1 (by omega)).1
 have q2:0≤(rd6 2).den E:=(c.b2 (by omega)).1
 have hm:=md_ok q2 11 (by omega)
 refine ⟨⟨_,rfl,.inr ⟨rfl,rfl⟩⟩,fun o=>?_⟩
 obtain ⟨u1,u2,u3,u4⟩:=e o
 have K:=hK hf q0 q1 o
 refine ⟨⟨n+1,hI.step (by omega) (ag o) u1 u2 rfl K.kd (md_ok (x:=((rd6 2).den E).tdiv 11) (Int.tdiv_nonneg q2 (by decide)) 4 (by omega)) K.pn ?_ u3 (by rw [u4];exact pn_ok _) K.top K.ig K.k4⟩,fun b' hb'=>?_⟩
 ·show E.i 132≤E.i 132+Int.tmod ((rd6 2).den E) 11*1000000∧E.i 132+Int.tmod ((rd6 2).den E) 11*1000000≤E.i 132+10000000
  omega
 ·cases hb'
  show (60 - (E.put si [] [(121,r6 k p)] o).i 131).toNat<_
  rw [hb,u1];omega
theorem K6.c {E0 E E':Env} {p:SE} (j:Int) (hj:j=1∨j=3) (hp:0≤p.den E∧p.den E≤99) (h:E'.i 134=E.i 134:=by rfl):K6 E0 E E' (.c j) p:=
 ⟨by show 0≤j∧j≤4;omega,hp,by rw [h];exact (if_neg (show¬j=0 by omega)).symm,fun h=>absurd (show j=2 from h) (by omega),fun h=>absurd (show j=4 from h) (by omega)⟩
theorem p20 {E:Env} (h:0≤(rd6 1).den E):0≤(SE.tmod (rd6 1) (.c 20)).den E∧(SE.tmod (rd6 1) (.c 20)).den E≤99:=by
 have:=md_ok h 20 (by omega)
 exact ⟨this.1,Int.le_trans this.2 (by omega)⟩
theorem sp2 {E0 E:Env} {n:Nat} (c:C6 E0 E n) {F:Fx} (hf:Facts E F) (d:dec F (.lt (.v 30) (.c 2))=some false):E0.i 30=2:=by
 have h:2≤E.i 30:=lt_f.1 (dec_ok hf d)
 have:=c.I.ag.i 30 (by decide);have:=c.sp;omega
theorem K6.e2 {E0 E E':Env} {n:Nat} (c:C6 E0 E n) {F:Fx} (hf:Facts E F) (q0:0≤(rd6 0).den E) (q1:0≤(rd6 1).den E) (d:dec F (.lt (.v 30) (.c 2))=some false) (dk:dec F (.eq kE (.c 2))=some true) (dp:dec F (.lt (.v 134) (.tmod (rd6 1) (.c 20)))=some false) (h:E'.i 134=E.i 134:=by rfl):
 K6 E0 E E' kE (.tmod (rd6 1) (.c 20)):=by
 have hk:kE.den E=2:=eq_t.1 (dec_ok hf dk)
 exact ⟨c.kE q0,p20 q1,by rw [h,if_neg (by omega)],fun _=>⟨lt_f.1 (dec_ok hf dp),sp2 c hf d⟩,fun h=>by omega⟩
theorem K6.e4 {E0 E E':Env} {n:Nat} (c:C6 E0 E n) {p:SE} (hp:0≤p.den E∧p.den E≤99) {F:Fx} (hf:Facts E F) (q0:0≤(rd6 0).den E) (d:dec F (.lt (.v 30) (.c 2))=some false) (dk:dec F (.eq kE (.c 4))=some true) (h:E'.i 134=E.i 134:=by rfl):
 K6 E0 E E' kE p:=by
 have hk:kE.den E=4:=eq_t.1 (dec_ok hf dk)
 exact ⟨c.kE q0,hp,by rw [h,if_neg (by omega)],fun h=>by omega,fun _=>sp2 c hf d⟩
theorem K6.e0 {E0 E E':Env} {n:Nat} (c:C6 E0 E n) {p:SE} (hp:0≤p.den E∧p.den E≤99) {F:Fx} (hf:Facts E F) (q0:0≤(rd6 0).den E) (dk:dec F (.eq kE (.c 0))=some true) (h:E'.i 134=imx (E.i 134) (p.den E):=by rfl):
 K6 E0 E E' kE p:=by
 have hk:kE.den E=0:=eq_t.1 (dec_ok hf dk)
 exact ⟨c.kE q0,hp,by rw [h,if_pos hk,imx_max],fun h=>by omega,fun h=>by omega⟩
theorem K6.eo {E0 E E':Env} {n:Nat} (c:C6 E0 E n) {p:SE} (hp:0≤p.den E∧p.den E≤99) {F:Fx} (hf:Facts E F) (q0:0≤(rd6 0).den E) (d2:dec F (.eq kE (.c 2))=some false) (d4:dec F (.eq kE (.c 4))=some false) (d0:dec F (.eq kE (.c 0))=some false) (h:E'.i 134=E.i 134:=by rfl):
 K6 E0 E E' kE p:=by
 have h2: ¬kE.den E=2:=eq_f.1 (dec_ok hf d2)
 have h4: ¬kE.den E=4:=eq_f.1 (dec_ok hf d4)
 have h0: ¬kE.den E=0:=eq_f.1 (dec_ok hf d0)
 exact ⟨c.kE q0,hp,by rw [h,if_neg h0],fun h=>absurd h h2,fun h=>absurd h h4⟩
theorem h6p0ls_ok {E0 E:Env} {n b:Nat} (c:C6 E0 E n) (hb:b=(60 - E.i 131).toNat): ∀x∈h6p0ls,VOkX (pts6 Try.prog) ct6 (fun E0 _ E=> ∃n,I6 E0 E n) (fun _ _ E=>(60 - E.i 131).toNat) (some b) E0 E x:=by
 have hI:=c.I
 have h131:=hI.i131
 have h130:=hI.i130
 have hle:=hI.le
 have e1:=hI.ag.i 1 (by decide)
 intro x hx
 unfold h6p0ls at hx
 simp only [List.mem_cons,List.not_mem_nil,or_false] at hx
 rcases hx with rfl|rfl|rfl|rfl|rfl|rfl|rfl|rfl|rfl|rfl|rfl|rfl|rfl|rfl|rfl|rfl|rfl|rfl|rfl|rfl|rfl|rfl|rfl|rfl|rfl|rfl|rfl|rfl|rfl|rfl|rfl|rfl|rfl|rfl|rfl|rfl|rfl|rfl|rfl|rfl|rfl|rfl
 ·exact go6 c hb (k:= .c 1) (p:=(md6 (.add (rd6 1) (.tmod (.mul (.c 3) (rd6 2)) (.c 97))))) (x:=(.add (rd6 1) (.tmod (.mul (.c 3) (rd6 2)) (.c 97)))) (by kernel_rfl) (by kernel_rfl) (fun _ _ _ o=> .c 1 (.inl rfl) (pn_ok _)) (fun o=>hI.ag.put o)
 ·exact go6 c hb (k:= .c 1) (p:=(md6 (.add (rd6 1) (.tmod (.mul (.c 3) (rd6 2)) (.c 97))))) (x:=(.add (rd6 1) (.tmod (.mul (.c 3) (rd6 2)) (.c 97)))) (by kernel_rfl) (by kernel_rfl) (fun _ _ _ o=> .c 1 (.inl rfl) (pn_ok _)) (fun o=>hI.ag.put o)
 ·exact go6 c hb (k:= .c 3) (p:= .tmod (rd6 1) (.c 20)) (x:=(.add (rd6 1) (.tmod (.mul (.c 3) (rd6 2)) (.c 97)))) (by kernel_rfl) (by kernel_rfl) (fun _ _ q o=> .c 3 (.inr rfl) (p20 q)) (fun o=>hI.ag.put o)
 ·exact go6 c hb (k:=kE) (p:= .tmod (rd6 1) (.c 20)) (x:=(.add (rd6 1) (.tmod (.mul (.c 3) (rd6 2)) (.c 97)))) (by kernel_rfl) (by kernel_rfl) (fun f q r o=> .e2 c f q r (by kernel_rfl) (by kernel_rfl) (by kernel_rfl)) (fun o=>hI.ag.put o)
 ·exact go6 c hb (k:= .c 1) (p:=(md6 (.add (rd6 1) (.tmod (.mul (.c 3) (rd6 2)) (.c 97))))) (x:=(.add (rd6 1) (.tmod (.mul (.c 3) (rd6 2)) (.c 97)))) (by kernel_rfl) (by kernel_rfl) (fun _ _ _ o=> .c 1 (.inl rfl) (pn_ok _)) (fun o=>hI.ag.put o)
 ·exact go6 c hb (k:=kE) (p:=(md6 (.add (rd6 1) (.tmod (.mul (.c 3) (rd6 2)) (.c 97))))) (x:=(.add (rd6 1) (.tmod (.mul (.c 3) (rd6 2)) (.c 97)))) (by kernel_rfl) (by kernel_rfl) (fun f q _ o=> .e4 c (pn_ok _) f q (by kernel_rfl) (by kernel_rfl)) (fun o=>hI.ag.put o)
 ·exact go6 c hb (k:=kE) (p:=(md6 (.add (rd6 1) (.tmod (.mul (.c 3) (rd6 2)) (.c 97))))) (x:=(.add (rd6 1) (.tmod (.mul (.c 3) (rd6 2)) (.c 97)))) (by kernel_rfl) (by kernel_rfl) (fun f q _ o=> .e0 c (pn_ok _) f q (by kernel_rfl)) (fun o=>hI.ag.put o)
 ·exact go6 c hb (k:=kE) (p:=(md6 (.add (rd6 1) (.tmod (.mul (.c 3) (rd6 2)) (.c 97))))) (x:=(.add (rd6 1) (.tmod (.mul (.c 3) (rd6 2)) (.c 97)))) (by kernel_rfl) (by kernel_rfl) (fun f q _ o=> .eo c (pn_ok _) f q (by kernel_rfl) (by kernel_rfl) (by kernel_rfl)) (fun o=>hI.ag.put o)
 ·exact go6 c hb (k:= .c 1) (p:=(md6 (.add (.v 133) (.c 2)))) (x:=(.add (.v 133) (.c 2))) (by kernel_rfl) (by kernel_rfl) (fun _ _ _ o=> .c 1 (.inl rfl) (pn_ok _)) (fun o=>hI.ag.put o)
 ·exact go6 c hb (k:= .c 1) (p:=(md6 (.add (.v 133) (.c 2)))) (x:=(.add (.v 133) (.c 2))) (by kernel_rfl) (by kernel_rfl) (fun _ _ _ o=> .c 1 (.inl rfl) (pn_ok _)) (fun o=>hI.ag.put o)
 ·exact go6 c hb (k:= .c 3) (p:= .tmod (rd6 1) (.c 20)) (x:=(.add (.v 133) (.c 2))) (by kernel_rfl) (by kernel_rfl) (fun _ _ q o=> .c 3 (.inr rfl) (p20 q)) (fun o=>hI.ag.put o)
 ·exact go6 c hb (k:=kE) (p:= .tmod (rd6 1) (.c 20)) (x:=(.add (.v 133) (.c 2))) (by kernel_rfl) (by kernel_rfl) (fun f q r o=> .e2 c f q r (by kernel_rfl) (by kernel_rfl) (by kernel_rfl)) (fun o=>hI.ag.put o)
 ·exact go6 c hb (k:= .c 1) (p:=(md6 (.add (.v 133) (.c 2)))) (x:=(.add (.v 133) (.c 2))) (by kernel_rfl) (by kernel_rfl) (fun _ _ _ o=> .c 1 (.inl rfl) (pn_ok _)) (fun o=>hI.ag.put o)
 ·exact go6 c hb (k:=kE) (p:=(md6 (.add (.v 133) (.c 2)))) (x:=(.add (.v 133) (.c 2))) (by kernel_rfl) (by kernel_rfl) (fun f q _ o=> .e4 c (pn_ok _) f q (by kernel_rfl) (by kernel_rfl)) (fun o=>hI.ag.put o)
 ·exact go6 c hb (k:=kE) (p:=(md6 (.add (.v 133) (.c 2)))) (x:=(.add (.v 133) (.c 2))) (by kernel_rfl) (by kernel_rfl) (fun f q _ o=> .e0 c (pn_ok _) f q (by kernel_rfl)) (fun o=>hI.ag.put o)
 ·exact go6 c hb (k:=kE) (p:=(md6 (.add (.v 133) (.c 2)))) (x:=(.add (.v 133) (.c 2))) (by kernel_rfl) (by kernel_rfl) (fun f q _ o=> .eo c (pn_ok _) f q (by kernel_rfl) (by kernel_rfl) (by kernel_rfl)) (fun o=>hI.ag.put o)
 ·exact go6 c hb (k:= .c 1) (p:=(md6 (.sub (.v 133) (.c 2)))) (x:=(.sub (.v 133) (.c 2))) (by kernel_rfl) (by kernel_rfl) (fun _ _ _ o=> .c 1 (.inl rfl) (pn_ok _)) (fun o=>hI.ag.put o)
 ·exact go6 c hb (k:= .c 1) (p:=(md6 (.sub (.v 133) (.c 2)))) (x:=(.sub (.v 133) (.c 2))) (by kernel_rfl) (by kernel_rfl) (fun _ _ _ o=> .c 1 (.inl rfl) (pn_ok _)) (fun o=>hI.ag.put o)
 ·exact go6 c hb (k:= .c 3) (p:= .tmod (rd6 1) (.c 20)) (x:=(.sub (.v 133) (.c 2))) (by kernel_rfl) (by kernel_rfl) (fun _ _ q o=> .c 3 (.inr rfl) (p20 q)) (fun o=>hI.ag.put o)
 ·exact go6 c hb (k:=kE) (p:= .tmod (rd6 1) (.c 20)) (x:=(.sub (.v 133) (.c 2))) (by kernel_rfl) (by kernel_rfl) (fun f q r o=> .e2 c f q r (by kernel_rfl) (by kernel_rfl) (by kernel_rfl)) (fun o=>hI.ag.put o)
 ·exact go6 c hb (k:= .c 1) (p:=(md6 (.sub (.v 133) (.c 2)))) (x:=(.sub (.v 133) (.c 2))) (by kernel_rfl) (by kernel_rfl) (fun _ _ _ o=> .c 1 (.inl rfl) (pn_ok _)) (fun o=>hI.ag.put o)
 ·exact go6 c hb (k:=kE) (p:=(md6 (.sub (.v 133) (.c 2)))) (x:=(.sub (.v 133) (.c 2))) (by kernel_rfl) (by kernel_rfl) (fun f q _ o=> .e4 c (pn_ok _) f q (by kernel_rfl) (by kernel_rfl)) (fun o=>hI.ag.put o)
 ·exact go6 c hb (k:=kE) (p:=(md6 (.sub (.v 133) (.c 2)))) (x:=(.sub (.v 133) (.c 2))) (by kernel_rfl) (by kernel_rfl) (fun f q _ o=> .e0 c (pn_ok _) f q (by kernel_rfl)) (fun o=>hI.ag.put o)
 ·exact go6 c hb (k:=kE) (p:=(md6 (.sub (.v 133) (.c 2)))) (x:=(.sub (.v 133) (.c 2))) (by kernel_rfl) (by kernel_rfl) (fun f q _ o=> .eo c (pn_ok _) f q (by kernel_rfl) (by kernel_rfl) (by kernel_rfl)) (fun o=>hI.ag.put o)
 ·exact go6 c hb (k:= .c 1) (p:=(md6 (.add (.v 133) (.c 1)))) (x:=(.add (.v 133) (.c 1))) (by kernel_rfl) (by kernel_rfl) (fun _ _ _ o=> .c 1 (.inl rfl) (pn_ok _)) (fun o=>hI.ag.put o)
 ·exact go6 c hb (k:= .c 1) (p:=(md6 (.add (.v 133) (.c 1)))) (x:=(.add (.v 133) (.c 1))) (by kernel_rfl) (by kernel_rfl) (fun _ _ _ o=> .c 1 (.inl rfl) (pn_ok _)) (fun o=>hI.ag.put o)
 ·exact go6 c hb (k:= .c 3) (p:= .tmod (rd6 1) (.c 20)) (x:=(.add (.v 133) (.c 1))) (by kernel_rfl) (by kernel_rfl) (fun _ _ q o=> .c 3 (.inr rfl) (p20 q)) (fun o=>hI.ag.put o)
 ·exact go6 c hb (k:=kE) (p:= .tmod (rd6 1) (.c 20)) (x:=(.add (.v 133) (.c 1))) (by kernel_rfl) (by kernel_rfl) (fun f q r o=> .e2 c f q r (by kernel_rfl) (by kernel_rfl) (by kernel_rfl)) (fun o=>hI.ag.put o)
 ·exact go6 c hb (k:= .c 1) (p:=(md6 (.add (.v 133) (.c 1)))) (x:=(.add (.v 133) (.c 1))) (by kernel_rfl) (by kernel_rfl) (fun _ _ _ o=> .c 1 (.inl rfl) (pn_ok _)) (fun o=>hI.ag.put o)
 ·exact go6 c hb (k:=kE) (p:=(md6 (.add (.v 133) (.c 1)))) (x:=(.add (.v 133) (.c 1))) (by kernel_rfl) (by kernel_rfl) (fun f q _ o=> .e4 c (pn_ok _) f q (by kernel_rfl) (by kernel_rfl)) (fun o=>hI.ag.put o)
 ·exact go6 c hb (k:=kE) (p:=(md6 (.add (.v 133) (.c 1)))) (x:=(.add (.v 133) (.c 1))) (by kernel_rfl) (by kernel_rfl) (fun f q _ o=> .e0 c (pn_ok _) f q (by kernel_rfl)) (fun o=>hI.ag.put o)
 ·exact go6 c hb (k:=kE) (p:=(md6 (.add (.v 133) (.c 1)))) (x:=(.add (.v 133) (.c 1))) (by kernel_rfl) (by kernel_rfl) (fun f q _ o=> .eo c (pn_ok _) f q (by kernel_rfl) (by kernel_rfl) (by kernel_rfl)) (fun o=>hI.ag.put o)
 ·intro hf
  have h1:=lt_f.1 (fat hf 0 rfl)
  have h2:E.i 130+2<E.i 1:=lt_t.1 (fat hf 9 rfl)
  have h3:E.i 1≤E.i 130+1:=by have:E.i 1≤E.i 130+1:=h1;omega
  omega
 ·intro hf
  have h1:=lt_f.1 (fat hf 0 rfl)
  have h2:E.i 130+2<E.i 1:=lt_t.1 (fat hf 8 rfl)
  have h3:E.i 1≤E.i 130+1:=by have:E.i 1≤E.i 130:=h1;omega
  omega
 ·intro hf
  have h2:E.i 130+2<E.i 1:=lt_t.1 (fat hf 7 rfl)
  have h3:=c.b2 (by omega)
  have h1:=le_f.1 (fat hf 0 rfl)
  have h4:(SE.rd (.v 0) (.add (.v 130) (.c 2))).den E=h6p0e5.den E:=rfl
  simp only [d_c] at h1
  omega
 ·intro hf
  have h2:E.i 130+2<E.i 1:=lt_t.1 (fat hf 6 rfl)
  have h3:=c.b2 (by omega)
  have h1:=le_f.1 (fat hf 0 rfl)
  have h4:(SE.rd (.v 0) (.add (.v 130) (.c 2))).den E=h6p0e5.den E:=rfl
  simp only [d_c] at h1
  omega
 ·intro hf
  have h2:E.i 130+2<E.i 1:=lt_t.1 (fat hf 5 rfl)
  have h3:=c.b1 (by omega)
  have h1:=le_f.1 (fat hf 0 rfl)
  have h4:(SE.rd (.v 0) (.add (.v 130) (.c 1))).den E=h6p0e3.den E:=rfl
  simp only [d_c] at h1
  omega
 ·intro hf
  have h2:E.i 130+2<E.i 1:=lt_t.1 (fat hf 4 rfl)
  have h3:=c.b1 (by omega)
  have h1:=le_f.1 (fat hf 0 rfl)
  have h4:(SE.rd (.v 0) (.add (.v 130) (.c 1))).den E=h6p0e3.den E:=rfl
  simp only [d_c] at h1
  omega
 ·intro hf
  have h2:E.i 130+2<E.i 1:=lt_t.1 (fat hf 3 rfl)
  have h3:=c.b0 (by omega)
  have h1:=le_f.1 (fat hf 0 rfl)
  have h4:(SE.rd (.v 0) (.v 130)).den E=h6p0e22.den E:=rfl
  simp only [d_c] at h1
  omega
 ·intro hf
  have h2:E.i 130+2<E.i 1:=lt_t.1 (fat hf 2 rfl)
  have h3:=c.b0 (by omega)
  have h1:=le_f.1 (fat hf 0 rfl)
  have h4:(SE.rd (.v 0) (.v 130)).den E=h6p0e22.den E:=rfl
  simp only [d_c] at h1
  omega
 ·intro hf
  exact out6 c.h0 c.hE hI
 ·intro hf
  exact out6 c.h0 c.hE hI
theorem prm6_ok (E:Env) (hE:E.fn=fns):PrmOk E (prm6 Try.prog):=prm_ok E hE (by intro c hc;cases hc) (by intro b hb;cases hb)
theorem byt_of {E:Env} (hE:E.fn=fns) (h:(SB.ap 16 (.a (.v 0) (.i (.v 1) .nil))).den E=true): ∀j:Nat,(j:Int)<E.i 1→0≤E.a 0 j∧E.a 0 j≤255:=by
 have e':E.fn.g 16 [.a ((AE.v 0).den E),.i (E.i 1)]=true:=h
 rw [hE,show (AE.v 0).den E=E.a 0 from by funext t;simp only [AE.den]] at e'
 have e2: @decide (∀j:Nat,(j:Int)<E.i 1→0≤E.a 0 j∧E.a 0 j≤255) (Classical.propDecidable _)=true:=e'
 exact @of_decide_eq_true _ (Classical.propDecidable _) e2
theorem ct6_ok:CtOk Try.prog fns ct6:=by
 refine ct_of_ptsX (p:=prm6 Try.prog) (pts:=pts6 Try.prog) (n:=900) (c0:=enterD (prm6 Try.prog) ct6) (fun E hE=>prm6_ok E hE) rfl (by intro q hq;cases hq) Try.func6 (by kernel_rfl) ?_ (fun E0 _ E=> ∃n,I6 E0 E n) (fun _ _ E=>(60 - E.i 131).toNat) h6als h6arun ?_ ?_
 ·intro t ht
  simp only [pts6,List.mem_cons,List.not_mem_nil,or_false] at ht
  subst ht
  exact ⟨by kernel_rfl,by decide⟩
 ·intro E0 hE0 hF
  refine ⟨fun a ha=>(by cases ha;intro q hq;cases hq),fun E H1 _ x hx=>?_⟩
  unfold h6als at hx
  simp only [List.mem_cons,List.not_mem_nil,or_false] at hx
  subst hx
  intro hf
  have H:AgP 100 E0 E:=AgP.trans (by omega) (AgP.refl 100 E0) H1.p
  exact ⟨⟨_,rfl,.inl ⟨rfl,rfl⟩⟩,fun o=>⟨⟨0,H.put o,rfl,rfl,by omega,by show (1000000:Int)≤1000000;omega,by show (1000000:Int)≤1000000+0*10000000;omega,⟨by show (0:Int)≤0;omega,by show (0:Int)≤99;omega⟩,rfl,⟨by show (-1:Int)≤ -1;omega,by show (-1:Int)≤99;omega⟩,STok.zero _ _,fun i hi=>absurd hi (Nat.not_lt_zero _)⟩,fun b hb=>by cases hb⟩⟩
 ·intro k t ht
  have hk:k=0:=by
   have:=(List.getElem?_eq_some_iff.1 ht).1
   simp [pts6] at this;omega
  subst hk
  obtain rfl:=Option.some.inj ht
  refine ⟨h6p0ls,h6p0run,fun E0 E1 hE0 hE1 hF0 ⟨n,hI⟩=>?_⟩
  have g0:0≤E0.i 30:=of_decide_eq_true (hF0 (.le (.c 0) (.v 30),true) (by simp [ct6,bd]))
  have g1:E0.i 30≤2:=of_decide_eq_true (hF0 (.le (.v 30) (.c 2),true) (by simp [ct6,bd]))
  have g2:0≤E0.i 1:=of_decide_eq_true (hF0 (.le (.c 0) (.v 1),true) (by simp [ct6,codeF,bd]))
  have g3:=byt_of hE0 (hF0 (.ap 16 (.a (.v 0) (.i (.v 1) .nil)),true) (by simp [ct6,codeF,bd]))
  have h131:=hI.i131;have h130:=hI.i130;have hle:=hI.le;have a0:=hI.at0;have a1:=hI.at1;have nx:=hI.nx;have tb:=hI.tb
  refine ⟨?_,fun E H1 _ x hx=>?_⟩
  ·refine facts_append (facts_append (facts_append (facts_append (facts_append (hI.ag.facts (by decide) hF0) ?_) ?_) ?_) ?_) ?_
   all_goals (simp only [bd,facts_cons,facts_nil,le_t,d_c,d_v,and_true];omega)
  ·have hag:AgP 100 E0 E:=hI.ag.trans (by omega) H1.p
   have hJ:I6 E0 E n:=⟨hag,by rw [H1.i 131 (by decide)];exact h131,by rw [H1.i 130 (by decide)];exact h130,hle,by rw [H1.i 132 (by decide)];exact a0,by rw [H1.i 132 (by decide)];exact a1,by rw [H1.i 133 (by decide)];exact nx,by rw [H1.i 134 (by decide),H1.a 121 (by decide)];exact hI.top,by rw [H1.i 134 (by decide)];exact tb,by rw [H1.a 121 (by decide)];exact hI.S,by rw [H1.a 121 (by decide),H1.i 132 (by decide)];exact hI.last⟩
   have e1:=hag.i 1 (by decide)
   have e0:=hag.a 0 (by decide)
   have i130:=hJ.i130
   have by_: ∀(x:SE) (u:Int),x.den E=E.i 130+u→0≤u→E.i 130+u<E.i 1→0≤(SE.rd (.v 0) x).den E∧(SE.rd (.v 0) x).den E≤255:=fun x u hx hu hl=>by
    show 0≤E.a 0 (x.den E).toNat∧E.a 0 (x.den E).toNat≤255
    rw [e0,hx]
    exact g3 _ (by omega)
   exact h6p0ls_ok (n:=n) ⟨hE0,H1.fn.trans hE1,hJ,⟨g0,g1⟩,g2,g3,fun h=>by_ (.v 130) 0 (by show E.i 130=_;omega) (by omega) (by omega),fun h=>by_ (.add (.v 130) (.c 1)) 1 rfl (by omega) h,fun h=>by_ (.add (.v 130) (.c 2)) 2 rfl (by omega) h⟩ (by rw [H1.i 131 (by decide)]) x hx
end
end Go.Proofs.Ytgianhjmjiiadaa
end
section
set_option autoImplicit true
set_option relaxedAutoImplicit true
set_option linter.unusedVariables false
set_option linter.unusedSimpArgs false
namespace Go.Proofs.Ytgianhjmjiiadaa
open Go Go.Sy
section
section
variable {S S':Nat→Int} {n:Nat}
theorem top_le (h:STok S n 2): ∀i,i≤n→topA S i≤99
 |0,_=>by show (-1:Int)≤99;omega
 |i+1,hi=>by
  have:=top_le h i (by omega)
  have:=(h.pn i (by omega)).2
  simp only [topA]
  split<;>omega
structure Wi (S S':Nat→Int) (n:Nat) (pn:Int):Prop where
 ag: ∀t,t<n*6→S' t=S t
 k0:kdA S' n=0
 e0:ecA S' n=0
 p0:pnA S' n=pn
 t0:tmA S' n=2000000000
 l0:elA S' n=true
 k1:kdA S' (n+1)=1
 e1:ecA S' (n+1)=0
 p1:pnA S' (n+1)=0
 t1:tmA S' (n+1)=2025000000
 o1:onA S' (n+1)=true
 k2:kdA S' (n+2)=3
 e2:ecA S' (n+2)=0
 p2:pnA S' (n+2)=pn
 t2:tmA S' (n+2)=2025000000
theorem Wi.ok {pn:Int} (w:Wi S S' n pn) (h:STok S n 2) (hn:n≤60) (h0:100≤pn) (h1:pn≤355):SOk S' (n+3):=by
 have a0: ∀i,i<n→kdA S' i=kdA S i:=fun i hi=>w.ag _ (by omega)
 have a1: ∀i,i<n→ecA S' i=ecA S i:=fun i hi=>w.ag _ (by omega)
 have a2: ∀i,i<n→pnA S' i=pnA S i:=fun i hi=>w.ag _ (by omega)
 have a3: ∀i,i<n→tmA S' i=tmA S i:=fun i hi=>w.ag _ (by omega)
 have c: ∀i,i<n+3→i<n∨i=n∨i=n+1∨i=n+2:=fun i hi=>by omega
 refine ⟨fun i hi=>?_,fun i hi=>?_,fun i hi=>?_,⟨n,fun i _ hi=>by rw [a2 i hi];exact (h.pn i hi).2,fun i hi hj=>?_⟩,fun i hi=>?_,fun i hi hk=>?_⟩
 ·rcases c i hi with c|rfl|rfl|rfl
  ·rw [a0 i c];exact h.kd i c
  ·rw [w.k0];omega
  ·rw [w.k1];omega
  ·rw [w.k2];omega
 ·rcases c i hi with c|rfl|rfl|rfl
  ·rw [a1 i c];exact h.ec i c
  ·rw [w.e0];omega
  ·rw [w.e1];omega
  ·rw [w.e2];omega
 ·rcases c i hi with c|rfl|rfl|rfl
  ·rw [a2 i c];have:=h.pn i c;omega
  ·rw [w.p0];omega
  ·rw [w.p1];omega
  ·rw [w.p2];omega
 ·rcases c i hi with c|rfl|rfl|rfl
  ·omega
  ·omega
  ·rw [w.k1];decide
  ·rw [w.k2];decide
 ·rcases c i hi with c|rfl|rfl|rfl
  ·rw [a3 i c];have:=h.tm i c;omega
  ·rw [w.t0];omega
  ·rw [w.t1];omega
  ·rw [w.t2];omega
 ·rcases c i hi with c|rfl|rfl|rfl
  ·rw [a2 i c,top_ag w.ag i (by omega)]
   rw [a0 i c] at hk
   exact (h.ig i c hk).1
  ·rw [w.k0] at hk;cases hk
  ·rw [w.k1] at hk;cases hk
  ·rw [w.k2] at hk;cases hk
theorem mem_top {A:Nat→Int} {n:Nat} {p:Int} (h:Rg A n) (hm:Mem A n p) (ht: ∀x,Mem A n x→x≤p):rvA A n 1=p:=by
 obtain ⟨i,hi,a,b⟩:=hm
 have hn:0<n:=by omega
 have l:=h.le (n - 1) (by omega)
 have h1:=ht (A ((n - 1)*2+1)) ⟨n - 1,by omega,l,Int.le_refl _⟩
 have e:rvA A n 1=A ((n - 1)*2+1):=by
  show A ((n - 1 - 1/2)*2+1 % 2)=_
  rfl
 rw [e]
 rcases Nat.lt_or_ge i (n - 1) with c|c
 ·have:=h.gap i (n - 1) c (by omega)
  have:=h.le i hi
  omega
 ·have:i=n - 1:=by omega
  subst this;omega
theorem Wi.says {pn:Int} (w:Wi S S' n pn) (h:STok S n 2) (hn:n≤60) (h0:100≤pn) (h1:pn≤355):
 colA S' ((n+1)*8)=1∧colA S' ((n+1)*8+3)=25000000∧1≤colL S' (n+1)∧colL S' (n+1)≤51∧colC S' ((n+1)*128+1)=pn∧colA S' ((n+2)*8)=1:=by
 have hS:=w.ok h hn h0 h1
 have I0:=inv_at hS (by omega) n (by omega)
 have ht0:topA S' n≤99:=by rw [top_ag w.ag n (Nat.le_refl _)];exact top_le h n (Nat.le_refl _)
 have ho:isOld (sAt S' n) (pnA S' n)=false:=by
  unfold isOld
  rw [w.p0,Bool.or_eq_false_iff]
  have:=I0.db;have:=I0.ig
  refine ⟨decide_eq_false (by omega),?_⟩
  cases hm:memD (sAt S' n).A (sAt S' n).n pn with
  |false=>rfl
  |true=>have:=I0.mem _ (memD_iff.1 hm);omega
 have e1:=st_new w.k0 ho
 have I1:=inv_at hS (by omega) (n+1) (by omega)
 have t1:topA S' (n+1)=pn:=by
  simp only [topA]
  rw [if_pos w.k0,w.p0];omega
 rw [t1] at I1
 have hlo:=(I1.t (by omega)).1
 have hmem:=(I1.t (by omega)).2
 have hnw:(sAt S' (n+1)).nw=true:=by
  rw [e1,w.l0]
  show ((sAt S' n).nw||true)=true
  rw [Bool.or_true]
 have hlt:(sAt S' (n+1)).lt=2000000000:=by
  rw [e1]
  show (if (sAt S' n).lo≤pnA S' n then tmA S' n else (sAt S' n).lt)=_
  have h3:(sAt S' n).lo≤99:=by
   rcases Int.lt_or_le (topA S' n) 0 with c|c
   ·have:=(I0.e (by have:=I0.t0;omega)).2.2.2;omega
   ·have:=(I0.t c).1;omega
  rw [w.p0,w.t0,if_pos (by omega)]
 have ha:asks (sAt S' (n+1)) (tmA S' (n+1)) (onA S' (n+1))=true:=by
  unfold asks
  rw [hnw,w.o1,w.t1]
  cases hq:(sAt S' (n+1)).qd with
  |true=>rfl
  |false=>
   have hal:(sAt S' (n+1)).al=2025000000:=by
    rw [e1] at hq⊢
    have hq':sqD (sAt S' n) (pnA S' n) (ecA S' n) (elA S' n)=false:=hq
    show (if elA S' n=true then (if sqD (sAt S' n) (pnA S' n) (ecA S' n) (elA S' n)=true then (if (sAt S' n).qd=true then (sAt S' n).al else 0) else tmA S' n+25000000) else (sAt S' n).al)=_
    rw [if_pos w.l0,hq',if_neg (by decide),w.t0]
    rfl
   rw [hal];rfl
 have hf:=frA_t w.k1 ha
 have e2:=st_fr w.k1 ha
 have hcA: ∀i c:Nat,c<8→colA S' (i*8+c)=cellA S' i c:=fun i c hc=>by
  unfold colA
  rw [show (i*8+c)/8=i by omega,show (i*8+c) % 8=c by omega]
 have hLn:colL S' (n+1)=((sAt S' (n+1)).n:Int):=by unfold colL;rw [hf,if_pos rfl]
 have hn1:=I1.nw hnw
 have hn2:=I1.n1
 refine ⟨?_,?_,by rw [hLn];omega,by rw [hLn];omega,?_,?_⟩
 ·have:=hcA (n+1) 0 (by omega)
  rw [Nat.add_zero] at this
  rw [this]
  show b2i (isC S' (n+1))=1
  unfold isC
  rw [hf];rfl
 ·rw [hcA (n+1) 3 (by omega)]
  show dlC S' (n+1)=_
  unfold dlC
  rw [hf,if_pos rfl,w.t1,hlt];decide
 ·unfold colC
  rw [show ((n+1)*128+1)/128=n+1 by omega,show ((n+1)*128+1) % 128=1 by omega]
  exact mem_top I1.rg hmem I1.mem
 ·have:=hcA (n+2) 0 (by omega)
  rw [Nat.add_zero] at this
  rw [this]
  show b2i (isC S' (n+2))=1
  have hO:isOld (sAt S' (n+2)) (pnA S' (n+2))=true:=by
   unfold isOld
   rw [w.p2,show sAt S' (n+2)=fram (sAt S' (n+1)) from e2]
   show (_||memD (sAt S' (n+1)).A (sAt S' (n+1)).n pn)=true
   rw [memD_iff.2 hmem,Bool.or_true]
  unfold isC
  rw [hO,frA_f (by rw [w.k2];decide),decide_eq_true w.k2];rfl
end
end
end Go.Proofs.Ytgianhjmjiiadaa
end
