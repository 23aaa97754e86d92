/- UpdateRTT keeps its contract. -/
import Derived.Test.YtiadjdnipheghaaRmO
import Derived.KernelRfl
set_option linter.unusedVariables false
set_option linter.unusedSimpArgs false
set_option maxRecDepth 100000
set_option maxHeartbeats 4000000
namespace Go.Proofs.Ytiadjdnipheghaa
open Go Go.Sy Go.RowKit

noncomputable def ue0 : SE := .ap 0 (.b (.v 0) (.i (.v 2) (.i (.v 6) .nil)))
noncomputable def ue1 : SE := .sub (.v 6) (.v 7)
noncomputable def ue2 : SE := .ap 1 (.b (.v 0) (.i (.v 2) (.i (.v 6) (.i (.v 7) .nil))))
noncomputable def ue3 : SE := .tdiv (.v 4) (.c 1000)
noncomputable def ue4 : SE := .mul ue3 (.c 7)
noncomputable def ue5 : SE := .tdiv ue1 (.c 1000)
noncomputable def ue6 : SE := .add ue4 ue5
noncomputable def ue7 : SE := .tdiv ue6 (.c 8)
noncomputable def ue8 : SE := .mul ue7 (.c 1000)
noncomputable def ue9 : SE := .ap 2 (.b (.v 0) (.i (.v 2) (.i (.v 4) (.i (.v 6) (.i (.v 7) .nil)))))
noncomputable def ue10 : SE := .tdiv (.v 5) (.c 1000)
noncomputable def ue11 : SE := .mul (.c 3) ue10
noncomputable def ue12 : SE := .sub (.v 4) ue1
noncomputable def ue13 : SE := .tdiv ue12 (.c 1000)
noncomputable def ue14 : SE := .add ue11 ue13
noncomputable def ue15 : SE := .tdiv ue14 (.c 4)
noncomputable def ue16 : SE := .mul ue15 (.c 1000)
noncomputable def ue17 : SE := .ap 3 (.b (.v 0) (.i (.v 2) (.i (.v 4) (.i (.v 5) (.i (.v 6) (.i (.v 7) .nil))))))
noncomputable def ue18 : SE := .sub (.c 0) ue12
noncomputable def ue19 : SE := .tdiv ue18 (.c 1000)
noncomputable def ue20 : SE := .add ue11 ue19
noncomputable def ue21 : SE := .tdiv ue20 (.c 4)
noncomputable def ue22 : SE := .mul ue21 (.c 1000)
noncomputable def ue23 : SE := .tdiv (.v 6) (.c 1000)
noncomputable def ue24 : SE := .add ue4 ue23
noncomputable def ue25 : SE := .tdiv ue24 (.c 8)
noncomputable def ue26 : SE := .mul ue25 (.c 1000)
noncomputable def ue27 : SE := .sub (.v 4) (.v 6)
noncomputable def ue28 : SE := .tdiv ue27 (.c 1000)
noncomputable def ue29 : SE := .add ue11 ue28
noncomputable def ue30 : SE := .tdiv ue29 (.c 4)
noncomputable def ue31 : SE := .mul ue30 (.c 1000)
noncomputable def ue32 : SE := .sub (.c 0) ue27
noncomputable def ue33 : SE := .tdiv ue32 (.c 1000)
noncomputable def ue34 : SE := .add ue11 ue33
noncomputable def ue35 : SE := .tdiv ue34 (.c 4)
noncomputable def ue36 : SE := .mul ue35 (.c 1000)
noncomputable def ue37 : SE := .sub (.v 6) (.v 2)
noncomputable def ue38 : SE := .tdiv ue1 (.c 2)
noncomputable def ue39 : SE := .tdiv (.v 6) (.c 2)
noncomputable def ux0 : Vl := .out 0 [.b (.v 0) (.c true), .i (.v 6) ue0, .i ue1 ue2, .i ue8 ue9, .i ue16 ue17, .i (.v 0) (.v 0)] [((.le (.c 0) ue14), true), ((.le (.c 0) ue13), true), ((.le (.c 0) ue12), true), ((.le (.v 7) (.c 0)), true), ((.lt (.v 6) (.v 2)), true), ((.v 0), true), ((.le (.c 1000) (.v 6)), true), ((.le (.v 6) (.c 2000000000)), true), ((.le (.c 0) (.v 7)), true), ((.le (.v 7) (.c 100000000)), true), ((.le (.c 1) (.v 2)), true), ((.le (.v 2) (.c 2000000000)), true), ((.le (.c 0) (.v 4)), true), ((.le (.v 4) (.c 2000000000)), true), ((.le (.c 0) (.v 5)), true), ((.le (.v 5) (.c 2000000000)), true)]
noncomputable def ux1 : Vl := .dead [((.le (.c 0) ue14), false), ((.le (.c 0) ue13), true), ((.le (.c 0) ue12), true), ((.le (.v 7) (.c 0)), true), ((.lt (.v 6) (.v 2)), true), ((.v 0), true), ((.le (.c 1000) (.v 6)), true), ((.le (.v 6) (.c 2000000000)), true), ((.le (.c 0) (.v 7)), true), ((.le (.v 7) (.c 100000000)), true), ((.le (.c 1) (.v 2)), true), ((.le (.v 2) (.c 2000000000)), true), ((.le (.c 0) (.v 4)), true), ((.le (.v 4) (.c 2000000000)), true), ((.le (.c 0) (.v 5)), true), ((.le (.v 5) (.c 2000000000)), true)]
noncomputable def ux2 : Vl := .dead [((.le (.c 0) ue13), false), ((.le (.c 0) ue12), true), ((.le (.v 7) (.c 0)), true), ((.lt (.v 6) (.v 2)), true), ((.v 0), true), ((.le (.c 1000) (.v 6)), true), ((.le (.v 6) (.c 2000000000)), true), ((.le (.c 0) (.v 7)), true), ((.le (.v 7) (.c 100000000)), true), ((.le (.c 1) (.v 2)), true), ((.le (.v 2) (.c 2000000000)), true), ((.le (.c 0) (.v 4)), true), ((.le (.v 4) (.c 2000000000)), true), ((.le (.c 0) (.v 5)), true), ((.le (.v 5) (.c 2000000000)), true)]
noncomputable def ux3 : Vl := .out 0 [.b (.v 0) (.c true), .i (.v 6) ue0, .i ue1 ue2, .i ue8 ue9, .i ue22 ue17, .i (.v 0) (.v 0)] [((.le (.c 0) ue20), true), ((.le (.c 0) ue19), true), ((.le (.c 0) ue12), false), ((.le (.v 7) (.c 0)), true), ((.lt (.v 6) (.v 2)), true), ((.v 0), true), ((.le (.c 1000) (.v 6)), true), ((.le (.v 6) (.c 2000000000)), true), ((.le (.c 0) (.v 7)), true), ((.le (.v 7) (.c 100000000)), true), ((.le (.c 1) (.v 2)), true), ((.le (.v 2) (.c 2000000000)), true), ((.le (.c 0) (.v 4)), true), ((.le (.v 4) (.c 2000000000)), true), ((.le (.c 0) (.v 5)), true), ((.le (.v 5) (.c 2000000000)), true)]
noncomputable def ux4 : Vl := .dead [((.le (.c 0) ue20), false), ((.le (.c 0) ue19), true), ((.le (.c 0) ue12), false), ((.le (.v 7) (.c 0)), true), ((.lt (.v 6) (.v 2)), true), ((.v 0), true), ((.le (.c 1000) (.v 6)), true), ((.le (.v 6) (.c 2000000000)), true), ((.le (.c 0) (.v 7)), true), ((.le (.v 7) (.c 100000000)), true), ((.le (.c 1) (.v 2)), true), ((.le (.v 2) (.c 2000000000)), true), ((.le (.c 0) (.v 4)), true), ((.le (.v 4) (.c 2000000000)), true), ((.le (.c 0) (.v 5)), true), ((.le (.v 5) (.c 2000000000)), true)]
noncomputable def ux5 : Vl := .dead [((.le (.c 0) ue19), false), ((.le (.c 0) ue12), false), ((.le (.v 7) (.c 0)), true), ((.lt (.v 6) (.v 2)), true), ((.v 0), true), ((.le (.c 1000) (.v 6)), true), ((.le (.v 6) (.c 2000000000)), true), ((.le (.c 0) (.v 7)), true), ((.le (.v 7) (.c 100000000)), true), ((.le (.c 1) (.v 2)), true), ((.le (.v 2) (.c 2000000000)), true), ((.le (.c 0) (.v 4)), true), ((.le (.v 4) (.c 2000000000)), true), ((.le (.c 0) (.v 5)), true), ((.le (.v 5) (.c 2000000000)), true)]
noncomputable def ux6 : Vl := .out 0 [.b (.v 0) (.c true), .i (.v 6) ue0, .i (.v 6) ue2, .i ue26 ue9, .i ue31 ue17, .i (.v 0) (.v 0)] [((.le (.c 0) ue29), true), ((.le (.c 0) ue28), true), ((.le (.c 0) ue27), true), ((.le (.v 7) (.c 0)), false), ((.lt (.v 6) (.v 2)), true), ((.v 0), true), ((.le (.c 1000) (.v 6)), true), ((.le (.v 6) (.c 2000000000)), true), ((.le (.c 0) (.v 7)), true), ((.le (.v 7) (.c 100000000)), true), ((.le (.c 1) (.v 2)), true), ((.le (.v 2) (.c 2000000000)), true), ((.le (.c 0) (.v 4)), true), ((.le (.v 4) (.c 2000000000)), true), ((.le (.c 0) (.v 5)), true), ((.le (.v 5) (.c 2000000000)), true)]
noncomputable def ux7 : Vl := .dead [((.le (.c 0) ue29), false), ((.le (.c 0) ue28), true), ((.le (.c 0) ue27), true), ((.le (.v 7) (.c 0)), false), ((.lt (.v 6) (.v 2)), true), ((.v 0), true), ((.le (.c 1000) (.v 6)), true), ((.le (.v 6) (.c 2000000000)), true), ((.le (.c 0) (.v 7)), true), ((.le (.v 7) (.c 100000000)), true), ((.le (.c 1) (.v 2)), true), ((.le (.v 2) (.c 2000000000)), true), ((.le (.c 0) (.v 4)), true), ((.le (.v 4) (.c 2000000000)), true), ((.le (.c 0) (.v 5)), true), ((.le (.v 5) (.c 2000000000)), true)]
noncomputable def ux8 : Vl := .dead [((.le (.c 0) ue28), false), ((.le (.c 0) ue27), true), ((.le (.v 7) (.c 0)), false), ((.lt (.v 6) (.v 2)), true), ((.v 0), true), ((.le (.c 1000) (.v 6)), true), ((.le (.v 6) (.c 2000000000)), true), ((.le (.c 0) (.v 7)), true), ((.le (.v 7) (.c 100000000)), true), ((.le (.c 1) (.v 2)), true), ((.le (.v 2) (.c 2000000000)), true), ((.le (.c 0) (.v 4)), true), ((.le (.v 4) (.c 2000000000)), true), ((.le (.c 0) (.v 5)), true), ((.le (.v 5) (.c 2000000000)), true)]
noncomputable def ux9 : Vl := .out 0 [.b (.v 0) (.c true), .i (.v 6) ue0, .i (.v 6) ue2, .i ue26 ue9, .i ue36 ue17, .i (.v 0) (.v 0)] [((.le (.c 0) ue34), true), ((.le (.c 0) ue33), true), ((.le (.c 0) ue27), false), ((.le (.v 7) (.c 0)), false), ((.lt (.v 6) (.v 2)), true), ((.v 0), true), ((.le (.c 1000) (.v 6)), true), ((.le (.v 6) (.c 2000000000)), true), ((.le (.c 0) (.v 7)), true), ((.le (.v 7) (.c 100000000)), true), ((.le (.c 1) (.v 2)), true), ((.le (.v 2) (.c 2000000000)), true), ((.le (.c 0) (.v 4)), true), ((.le (.v 4) (.c 2000000000)), true), ((.le (.c 0) (.v 5)), true), ((.le (.v 5) (.c 2000000000)), true)]
noncomputable def ux10 : Vl := .dead [((.le (.c 0) ue34), false), ((.le (.c 0) ue33), true), ((.le (.c 0) ue27), false), ((.le (.v 7) (.c 0)), false), ((.lt (.v 6) (.v 2)), true), ((.v 0), true), ((.le (.c 1000) (.v 6)), true), ((.le (.v 6) (.c 2000000000)), true), ((.le (.c 0) (.v 7)), true), ((.le (.v 7) (.c 100000000)), true), ((.le (.c 1) (.v 2)), true), ((.le (.v 2) (.c 2000000000)), true), ((.le (.c 0) (.v 4)), true), ((.le (.v 4) (.c 2000000000)), true), ((.le (.c 0) (.v 5)), true), ((.le (.v 5) (.c 2000000000)), true)]
noncomputable def ux11 : Vl := .dead [((.le (.c 0) ue33), false), ((.le (.c 0) ue27), false), ((.le (.v 7) (.c 0)), false), ((.lt (.v 6) (.v 2)), true), ((.v 0), true), ((.le (.c 1000) (.v 6)), true), ((.le (.v 6) (.c 2000000000)), true), ((.le (.c 0) (.v 7)), true), ((.le (.v 7) (.c 100000000)), true), ((.le (.c 1) (.v 2)), true), ((.le (.v 2) (.c 2000000000)), true), ((.le (.c 0) (.v 4)), true), ((.le (.v 4) (.c 2000000000)), true), ((.le (.c 0) (.v 5)), true), ((.le (.v 5) (.c 2000000000)), true)]
noncomputable def ux12 : Vl := .out 0 [.b (.v 0) (.c true), .i (.v 2) ue0, .i ue1 ue2, .i ue8 ue9, .i ue16 ue17, .i (.v 0) (.v 0)] [((.le (.c 0) ue6), true), ((.le (.c 0) ue5), true), ((.le (.c 0) ue14), true), ((.le (.c 0) ue13), true), ((.le (.c 0) ue12), true), ((.le (.v 7) ue37), true), ((.lt (.v 6) (.v 2)), false), ((.v 0), true), ((.le (.c 1000) (.v 6)), true), ((.le (.v 6) (.c 2000000000)), true), ((.le (.c 0) (.v 7)), true), ((.le (.v 7) (.c 100000000)), true), ((.le (.c 1) (.v 2)), true), ((.le (.v 2) (.c 2000000000)), true), ((.le (.c 0) (.v 4)), true), ((.le (.v 4) (.c 2000000000)), true), ((.le (.c 0) (.v 5)), true), ((.le (.v 5) (.c 2000000000)), true)]
noncomputable def ux13 : Vl := .dead [((.le (.c 0) ue6), false), ((.le (.c 0) ue5), true), ((.le (.c 0) ue14), true), ((.le (.c 0) ue13), true), ((.le (.c 0) ue12), true), ((.le (.v 7) ue37), true), ((.lt (.v 6) (.v 2)), false), ((.v 0), true), ((.le (.c 1000) (.v 6)), true), ((.le (.v 6) (.c 2000000000)), true), ((.le (.c 0) (.v 7)), true), ((.le (.v 7) (.c 100000000)), true), ((.le (.c 1) (.v 2)), true), ((.le (.v 2) (.c 2000000000)), true), ((.le (.c 0) (.v 4)), true), ((.le (.v 4) (.c 2000000000)), true), ((.le (.c 0) (.v 5)), true), ((.le (.v 5) (.c 2000000000)), true)]
noncomputable def ux14 : Vl := .dead [((.le (.c 0) ue5), false), ((.le (.c 0) ue14), true), ((.le (.c 0) ue13), true), ((.le (.c 0) ue12), true), ((.le (.v 7) ue37), true), ((.lt (.v 6) (.v 2)), false), ((.v 0), true), ((.le (.c 1000) (.v 6)), true), ((.le (.v 6) (.c 2000000000)), true), ((.le (.c 0) (.v 7)), true), ((.le (.v 7) (.c 100000000)), true), ((.le (.c 1) (.v 2)), true), ((.le (.v 2) (.c 2000000000)), true), ((.le (.c 0) (.v 4)), true), ((.le (.v 4) (.c 2000000000)), true), ((.le (.c 0) (.v 5)), true), ((.le (.v 5) (.c 2000000000)), true)]
noncomputable def ux15 : Vl := .dead [((.le (.c 0) ue14), false), ((.le (.c 0) ue13), true), ((.le (.c 0) ue12), true), ((.le (.v 7) ue37), true), ((.lt (.v 6) (.v 2)), false), ((.v 0), true), ((.le (.c 1000) (.v 6)), true), ((.le (.v 6) (.c 2000000000)), true), ((.le (.c 0) (.v 7)), true), ((.le (.v 7) (.c 100000000)), true), ((.le (.c 1) (.v 2)), true), ((.le (.v 2) (.c 2000000000)), true), ((.le (.c 0) (.v 4)), true), ((.le (.v 4) (.c 2000000000)), true), ((.le (.c 0) (.v 5)), true), ((.le (.v 5) (.c 2000000000)), true)]
noncomputable def ux16 : Vl := .dead [((.le (.c 0) ue13), false), ((.le (.c 0) ue12), true), ((.le (.v 7) ue37), true), ((.lt (.v 6) (.v 2)), false), ((.v 0), true), ((.le (.c 1000) (.v 6)), true), ((.le (.v 6) (.c 2000000000)), true), ((.le (.c 0) (.v 7)), true), ((.le (.v 7) (.c 100000000)), true), ((.le (.c 1) (.v 2)), true), ((.le (.v 2) (.c 2000000000)), true), ((.le (.c 0) (.v 4)), true), ((.le (.v 4) (.c 2000000000)), true), ((.le (.c 0) (.v 5)), true), ((.le (.v 5) (.c 2000000000)), true)]
noncomputable def ux17 : Vl := .out 0 [.b (.v 0) (.c true), .i (.v 2) ue0, .i ue1 ue2, .i ue8 ue9, .i ue22 ue17, .i (.v 0) (.v 0)] [((.le (.c 0) ue6), true), ((.le (.c 0) ue5), true), ((.le (.c 0) ue20), true), ((.le (.c 0) ue19), true), ((.le (.c 0) ue12), false), ((.le (.v 7) ue37), true), ((.lt (.v 6) (.v 2)), false), ((.v 0), true), ((.le (.c 1000) (.v 6)), true), ((.le (.v 6) (.c 2000000000)), true), ((.le (.c 0) (.v 7)), true), ((.le (.v 7) (.c 100000000)), true), ((.le (.c 1) (.v 2)), true), ((.le (.v 2) (.c 2000000000)), true), ((.le (.c 0) (.v 4)), true), ((.le (.v 4) (.c 2000000000)), true), ((.le (.c 0) (.v 5)), true), ((.le (.v 5) (.c 2000000000)), true)]
noncomputable def ux18 : Vl := .dead [((.le (.c 0) ue6), false), ((.le (.c 0) ue5), true), ((.le (.c 0) ue20), true), ((.le (.c 0) ue19), true), ((.le (.c 0) ue12), false), ((.le (.v 7) ue37), true), ((.lt (.v 6) (.v 2)), false), ((.v 0), true), ((.le (.c 1000) (.v 6)), true), ((.le (.v 6) (.c 2000000000)), true), ((.le (.c 0) (.v 7)), true), ((.le (.v 7) (.c 100000000)), true), ((.le (.c 1) (.v 2)), true), ((.le (.v 2) (.c 2000000000)), true), ((.le (.c 0) (.v 4)), true), ((.le (.v 4) (.c 2000000000)), true), ((.le (.c 0) (.v 5)), true), ((.le (.v 5) (.c 2000000000)), true)]
noncomputable def ux19 : Vl := .dead [((.le (.c 0) ue5), false), ((.le (.c 0) ue20), true), ((.le (.c 0) ue19), true), ((.le (.c 0) ue12), false), ((.le (.v 7) ue37), true), ((.lt (.v 6) (.v 2)), false), ((.v 0), true), ((.le (.c 1000) (.v 6)), true), ((.le (.v 6) (.c 2000000000)), true), ((.le (.c 0) (.v 7)), true), ((.le (.v 7) (.c 100000000)), true), ((.le (.c 1) (.v 2)), true), ((.le (.v 2) (.c 2000000000)), true), ((.le (.c 0) (.v 4)), true), ((.le (.v 4) (.c 2000000000)), true), ((.le (.c 0) (.v 5)), true), ((.le (.v 5) (.c 2000000000)), true)]
noncomputable def ux20 : Vl := .dead [((.le (.c 0) ue20), false), ((.le (.c 0) ue19), true), ((.le (.c 0) ue12), false), ((.le (.v 7) ue37), true), ((.lt (.v 6) (.v 2)), false), ((.v 0), true), ((.le (.c 1000) (.v 6)), true), ((.le (.v 6) (.c 2000000000)), true), ((.le (.c 0) (.v 7)), true), ((.le (.v 7) (.c 100000000)), true), ((.le (.c 1) (.v 2)), true), ((.le (.v 2) (.c 2000000000)), true), ((.le (.c 0) (.v 4)), true), ((.le (.v 4) (.c 2000000000)), true), ((.le (.c 0) (.v 5)), true), ((.le (.v 5) (.c 2000000000)), true)]
noncomputable def ux21 : Vl := .dead [((.le (.c 0) ue19), false), ((.le (.c 0) ue12), false), ((.le (.v 7) ue37), true), ((.lt (.v 6) (.v 2)), false), ((.v 0), true), ((.le (.c 1000) (.v 6)), true), ((.le (.v 6) (.c 2000000000)), true), ((.le (.c 0) (.v 7)), true), ((.le (.v 7) (.c 100000000)), true), ((.le (.c 1) (.v 2)), true), ((.le (.v 2) (.c 2000000000)), true), ((.le (.c 0) (.v 4)), true), ((.le (.v 4) (.c 2000000000)), true), ((.le (.c 0) (.v 5)), true), ((.le (.v 5) (.c 2000000000)), true)]
noncomputable def ux22 : Vl := .out 0 [.b (.v 0) (.c true), .i (.v 2) ue0, .i (.v 6) ue2, .i ue26 ue9, .i ue31 ue17, .i (.v 0) (.v 0)] [((.le (.c 0) ue29), true), ((.le (.c 0) ue28), true), ((.le (.c 0) ue27), true), ((.le (.v 7) ue37), false), ((.lt (.v 6) (.v 2)), false), ((.v 0), true), ((.le (.c 1000) (.v 6)), true), ((.le (.v 6) (.c 2000000000)), true), ((.le (.c 0) (.v 7)), true), ((.le (.v 7) (.c 100000000)), true), ((.le (.c 1) (.v 2)), true), ((.le (.v 2) (.c 2000000000)), true), ((.le (.c 0) (.v 4)), true), ((.le (.v 4) (.c 2000000000)), true), ((.le (.c 0) (.v 5)), true), ((.le (.v 5) (.c 2000000000)), true)]
noncomputable def ux23 : Vl := .dead [((.le (.c 0) ue29), false), ((.le (.c 0) ue28), true), ((.le (.c 0) ue27), true), ((.le (.v 7) ue37), false), ((.lt (.v 6) (.v 2)), false), ((.v 0), true), ((.le (.c 1000) (.v 6)), true), ((.le (.v 6) (.c 2000000000)), true), ((.le (.c 0) (.v 7)), true), ((.le (.v 7) (.c 100000000)), true), ((.le (.c 1) (.v 2)), true), ((.le (.v 2) (.c 2000000000)), true), ((.le (.c 0) (.v 4)), true), ((.le (.v 4) (.c 2000000000)), true), ((.le (.c 0) (.v 5)), true), ((.le (.v 5) (.c 2000000000)), true)]
noncomputable def ux24 : Vl := .dead [((.le (.c 0) ue28), false), ((.le (.c 0) ue27), true), ((.le (.v 7) ue37), false), ((.lt (.v 6) (.v 2)), false), ((.v 0), true), ((.le (.c 1000) (.v 6)), true), ((.le (.v 6) (.c 2000000000)), true), ((.le (.c 0) (.v 7)), true), ((.le (.v 7) (.c 100000000)), true), ((.le (.c 1) (.v 2)), true), ((.le (.v 2) (.c 2000000000)), true), ((.le (.c 0) (.v 4)), true), ((.le (.v 4) (.c 2000000000)), true), ((.le (.c 0) (.v 5)), true), ((.le (.v 5) (.c 2000000000)), true)]
noncomputable def ux25 : Vl := .out 0 [.b (.v 0) (.c true), .i (.v 2) ue0, .i (.v 6) ue2, .i ue26 ue9, .i ue36 ue17, .i (.v 0) (.v 0)] [((.le (.c 0) ue34), true), ((.le (.c 0) ue33), true), ((.le (.c 0) ue27), false), ((.le (.v 7) ue37), false), ((.lt (.v 6) (.v 2)), false), ((.v 0), true), ((.le (.c 1000) (.v 6)), true), ((.le (.v 6) (.c 2000000000)), true), ((.le (.c 0) (.v 7)), true), ((.le (.v 7) (.c 100000000)), true), ((.le (.c 1) (.v 2)), true), ((.le (.v 2) (.c 2000000000)), true), ((.le (.c 0) (.v 4)), true), ((.le (.v 4) (.c 2000000000)), true), ((.le (.c 0) (.v 5)), true), ((.le (.v 5) (.c 2000000000)), true)]
noncomputable def ux26 : Vl := .dead [((.le (.c 0) ue34), false), ((.le (.c 0) ue33), true), ((.le (.c 0) ue27), false), ((.le (.v 7) ue37), false), ((.lt (.v 6) (.v 2)), false), ((.v 0), true), ((.le (.c 1000) (.v 6)), true), ((.le (.v 6) (.c 2000000000)), true), ((.le (.c 0) (.v 7)), true), ((.le (.v 7) (.c 100000000)), true), ((.le (.c 1) (.v 2)), true), ((.le (.v 2) (.c 2000000000)), true), ((.le (.c 0) (.v 4)), true), ((.le (.v 4) (.c 2000000000)), true), ((.le (.c 0) (.v 5)), true), ((.le (.v 5) (.c 2000000000)), true)]
noncomputable def ux27 : Vl := .dead [((.le (.c 0) ue33), false), ((.le (.c 0) ue27), false), ((.le (.v 7) ue37), false), ((.lt (.v 6) (.v 2)), false), ((.v 0), true), ((.le (.c 1000) (.v 6)), true), ((.le (.v 6) (.c 2000000000)), true), ((.le (.c 0) (.v 7)), true), ((.le (.v 7) (.c 100000000)), true), ((.le (.c 1) (.v 2)), true), ((.le (.v 2) (.c 2000000000)), true), ((.le (.c 0) (.v 4)), true), ((.le (.v 4) (.c 2000000000)), true), ((.le (.c 0) (.v 5)), true), ((.le (.v 5) (.c 2000000000)), true)]
noncomputable def ux28 : Vl := .out 0 [.i (.v 6) ue0, .i ue1 ue2, .i ue1 ue9, .i ue38 ue17, .i (.v 0) (.v 0)] [((.le (.v 7) (.c 0)), true), ((.v 0), false), ((.le (.c 1000) (.v 6)), true), ((.le (.v 6) (.c 2000000000)), true), ((.le (.c 0) (.v 7)), true), ((.le (.v 7) (.c 100000000)), true), ((.le (.c 1) (.v 2)), true), ((.le (.v 2) (.c 2000000000)), true), ((.le (.c 0) (.v 4)), true), ((.le (.v 4) (.c 2000000000)), true), ((.le (.c 0) (.v 5)), true), ((.le (.v 5) (.c 2000000000)), true)]
noncomputable def ux29 : Vl := .out 0 [.i (.v 6) ue0, .i (.v 6) ue2, .i (.v 6) ue9, .i ue39 ue17, .i (.v 0) (.v 0)] [((.le (.v 7) (.c 0)), false), ((.v 0), false), ((.le (.c 1000) (.v 6)), true), ((.le (.v 6) (.c 2000000000)), true), ((.le (.c 0) (.v 7)), true), ((.le (.v 7) (.c 100000000)), true), ((.le (.c 1) (.v 2)), true), ((.le (.v 2) (.c 2000000000)), true), ((.le (.c 0) (.v 4)), true), ((.le (.v 4) (.c 2000000000)), true), ((.le (.c 0) (.v 5)), true), ((.le (.v 5) (.c 2000000000)), true)]
noncomputable def uls : List Vl := [ux0, ux1, ux2, ux3, ux4, ux5, ux6, ux7, ux8, ux9, ux10, ux11, ux12, ux13, ux14, ux15, ux16, ux17, ux18, ux19, ux20, ux21, ux22, ux23, ux24, ux25, ux26, ux27, ux28, ux29]
theorem urun : (run (prm9 Try.prog) 600 (enterD (prm9 Try.prog) ct9)).map (vOf (prm9 Try.prog) ct9 []) = uls := by kernel_rfl
-- 30 ways; terms: ue0, ue1, ue2, ue3, ue4, ue5, ue6, ue7, ue8, ue9, ue10, ue11, ue12, ue13, ue14, ue15, ue16, ue17, ue18, ue19, ue20, ue21, ue22, ue23, ue24, ue25, ue26, ue27, ue28, ue29, ue30, ue31, ue32, ue33, ue34, ue35, ue36, ue37, ue38, ue39


theorem prm9_ok (E : Env) : PrmOk E (prm9 Try.prog) where
  ct := by intro c hc; cases hc
  mix := Checked.mixed Try.checked
  okf := okf_call
  body := okf_body
  mts := by intro x hx; cases hx
  dfr := by intro x hx; cases hx
  dfk := by intro x hx; cases hx
theorem ab_b2i (b : Bool) : ab (b2i b) = b := by cases b <;> rfl
variable {E : Env}
theorem e9a_den (hE : E.fn = fns) : e9a.den E = uMn (E.b 0) (E.i 2) (E.i 6) := by
  show E.fn.f 0 [.i (b2i (E.b 0)), .i (E.i 2), .i (E.i 6)] = _
  rw [hE]; show uMn (ab (b2i (E.b 0))) _ _ = _; rw [ab_b2i]
theorem e9b_den (hE : E.fn = fns) : e9b.den E = uX (uMn (E.b 0) (E.i 2) (E.i 6)) (E.i 6) (E.i 7) := by
  show E.fn.f 1 [.i (b2i (E.b 0)), .i (E.i 2), .i (E.i 6), .i (E.i 7)] = _
  rw [hE]; show uX (uMn (ab (b2i (E.b 0))) _ _) _ _ = _; rw [ab_b2i]
theorem e9c_den (hE : E.fn = fns) : e9c.den E = uSm (E.b 0) (E.i 4) (uX (uMn (E.b 0) (E.i 2) (E.i 6)) (E.i 6) (E.i 7)) := by
  show E.fn.f 2 [.i (b2i (E.b 0)), .i (E.i 2), .i (E.i 4), .i (E.i 6), .i (E.i 7)] = _
  rw [hE]; show uSm (ab (b2i (E.b 0))) _ (uX (uMn (ab (b2i (E.b 0))) _ _) _ _) = _; rw [ab_b2i]
theorem e9d_den (hE : E.fn = fns) : e9d.den E = uDev (E.b 0) (E.i 5) (E.i 4) (uX (uMn (E.b 0) (E.i 2) (E.i 6)) (E.i 6) (E.i 7)) := by
  show E.fn.f 3 [.i (b2i (E.b 0)), .i (E.i 2), .i (E.i 4), .i (E.i 5), .i (E.i 6), .i (E.i 7)] = _
  rw [hE]; show uDev (ab (b2i (E.b 0))) _ _ (uX (uMn (ab (b2i (E.b 0))) _ _) _ _) = _; rw [ab_b2i]
theorem ct9_ok : CtOk Try.prog fns ct9 := by
  refine ct_of_pts (p := prm9 Try.prog) (pts := []) (n := 600) (c0 := enterD (prm9 Try.prog) ct9) (fun E _ => prm9_ok E) rfl (by intro q hq; cases hq) Try.func9 (by kernel_rfl) (by intro t ht; cases ht) (fun _ _ _ => True) (fun _ _ _ => 0) uls urun ?_ (by intro i t ht; simp at ht)
  intro E hE hF
  have h9 : (1000 ≤ E.i 6 ∧ E.i 6 ≤ 2000000000) ∧ (0 ≤ E.i 7 ∧ E.i 7 ≤ 100000000) ∧ (1 ≤ E.i 2 ∧ E.i 2 ≤ 2000000000) ∧ (0 ≤ E.i 4 ∧ E.i 4 ≤ 2000000000) ∧ 0 ≤ E.i 5 ∧ E.i 5 ≤ 2000000000 := by
    have hF' : Facts E [((.le (.c 1000) (.v 6)), true), ((.le (.v 6) (.c 2000000000)), true), ((.le (.c 0) (.v 7)), true), ((.le (.v 7) (.c 100000000)), true), ((.le (.c 1) (.v 2)), true), ((.le (.v 2) (.c 2000000000)), true), ((.le (.c 0) (.v 4)), true), ((.le (.v 4) (.c 2000000000)), true), ((.le (.c 0) (.v 5)), true), ((.le (.v 5) (.c 2000000000)), true)] := hF
    simp only [facts_cons, facts_nil, le_t, d_c, d_v, and_true] at hF'
    omega
  obtain ⟨⟨s0, s1⟩, ⟨d0, d1⟩, ⟨m0, m1⟩, ⟨q0, q1⟩, v0, v1⟩ := h9
  refine ⟨fun a ha => ?_, fun x hx => ?_⟩
  · obtain rfl := Option.some.inj ha
    obtain ⟨a1, a2, a3⟩ := rStep_ok (r := ⟨E.b 0, E.i 2, 0, E.i 4, E.i 5⟩) ⟨⟨by show (0 : Int) < E.i 2; omega, m1⟩, ⟨q0, q1⟩, v0, v1⟩ s0 s1 d0 d1
    show Facts E [((.le (.c 1) e9a), true), ((.le e9a (.c 2000000000)), true), ((.le (.c 0) e9c), true), ((.le e9c (.c 2000000000)), true), ((.le (.c 0) e9d), true), ((.le e9d (.c 2000000000)), true)]
    simp only [facts_cons, facts_nil, le_t, d_c, and_true, e9a_den hE, e9c_den hE, e9d_den hE]
    exact ⟨a1.1, a1.2, a2.1, a2.2, a3.1, a3.2⟩
  · have ha := e9a_den hE; have hb := e9b_den hE; have hc := e9c_den hE; have hd := e9d_den hE
    generalize hh : E.b 0 = has at ha hb hc hd
    generalize h2 : E.i 2 = mn at ha hb hc hd m0 m1
    generalize h4 : E.i 4 = sm at ha hb hc hd q0 q1
    generalize h5 : E.i 5 = dev at ha hb hc hd v0 v1
    generalize h6 : E.i 6 = s at ha hb hc hd s0 s1
    generalize h7 : E.i 7 = d at ha hb hc hd d0 d1
    have hbv : (SB.v 0).den E = has := hh
    unfold uls at hx
    simp only [List.mem_cons, List.not_mem_nil, or_false] at hx
    change ue0.den E = _ at ha
    change ue2.den E = _ at hb
    change ue9.den E = _ at hc
    change ue17.den E = _ at hd
    clear hF hE
    rcases hx with rfl | rfl | rfl | rfl | rfl | rfl | rfl | rfl | rfl | rfl | rfl | rfl | rfl | rfl | rfl | rfl | rfl | rfl | rfl | rfl | rfl | rfl | rfl | rfl | rfl | rfl | rfl | rfl | rfl | rfl
    all_goals
      intro hf
      simp only [facts_cons, facts_nil, lt_t, lt_f, le_t, le_f, eq_t, eq_f, and_true, hbv, ue1, ue3, ue4, ue5, ue6, ue7, ue8, ue10, ue11, ue12, ue13, ue14, ue15, ue16, ue18, ue19, ue20, ue21, ue22, ue23, ue24, ue25, ue26, ue27, ue28, ue29, ue30, ue31, ue32, ue33, ue34, ue35, ue36, ue37, ue38, ue39, d_c, d_v, d_add, d_sub, d_mul, d_tdiv, d_wrap, d_mx, d_mn, h2, h4, h5, h6, h7] at hf
    all_goals cases has <;> simp only [reduceCtorEq, Bool.true_eq_false, Bool.false_eq_true, false_and, and_false, true_and, and_true] at hf
    all_goals first
      | (exfalso; clear ha hb hc hd; (try simp (discharger := omega) only [tdn] at hf); omega)
      | (refine ⟨rfl, ?_⟩
         simp only [List.forall_mem_cons, List.not_mem_nil, false_imp_iff, implies_true, and_true, Eqn.ok, ha, hb, hc, hd, hbv, d_bc, ue1, ue3, ue4, ue5, ue6, ue7, ue8, ue10, ue11, ue12, ue13, ue14, ue15, ue16, ue18, ue19, ue20, ue21, ue22, ue23, ue24, ue25, ue26, ue27, ue28, ue29, ue30, ue31, ue32, ue33, ue34, ue35, ue36, ue37, ue38, ue39, d_c, d_v, d_add, d_sub, d_mul, d_tdiv, d_wrap, d_mx, d_mn, h2, h4, h5, h6, h7]
         clear ha hb hc hd
         and_intros <;> simp only [uMn, uX, uSm, uDev, reduceCtorEq, Bool.true_eq_false, Bool.false_eq_true, if_true, if_false] <;> (try simp (discharger := omega) only [tdn]) <;> (repeat' split) <;> omega)
end Go.Proofs.Ytiadjdnipheghaa
