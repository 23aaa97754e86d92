/- IDOf, token, Get and Sent keep their contracts. -/
import Derived.Test.YtjanndmmhjnpcaaDoorQcG
import Derived.KernelRfl
set_option autoImplicit true
set_option relaxedAutoImplicit true
set_option linter.unusedVariables false
set_option linter.unusedSimpArgs false
set_option maxRecDepth 100000
set_option maxHeartbeats 4000000
namespace Go.Proofs.YtjanndmmhjnpcaaDoor
open Go Go.Sy Go.RowKit
noncomputable def iae0 : SE := .shr .u16 (.v 1) (.c 8)
noncomputable def iae1 : SE := .wrap .u8 iae0
noncomputable def iax0 : Vl := .out 0 [.i iae1 (.c 0), .i (.v 1) (.v 1)] [((.le (.c 0) (.v 1)), true), ((.le (.v 1) (.c 255)), true)]
noncomputable def ials : List Vl := [iax0]
-- 1 ways; terms: iae0, iae1
noncomputable def kae0 : SE := .shr .u16 (.v 1) (.c 8)
noncomputable def kae1 : SE := .wrap .u8 kae0
noncomputable def kax0 : Vl := .out 0 [.i kae1 (.c 0), .i (.v 1) (.v 1)] [((.le (.c 0) (.v 1)), true), ((.le (.v 1) (.c 255)), true)]
noncomputable def kals : List Vl := [kax0]
theorem karun : (run (prm35 Tryd.prog) 300 (enterD (prm35 Tryd.prog) ct20)).map (vOf (prm35 Tryd.prog) ct20 []) = kals := by kernel_rfl
-- 1 ways; terms: kae0, kae1
noncomputable def gnae0 : SE := .rd (.v 0) (.c 0)
noncomputable def gnae1 : SE := .mx (.v 11) (.v 10)
noncomputable def gnae2 : SE := .tmod (.v 12) (.c 10000)
noncomputable def gnae3 : SE := .add (.c 5000) gnae2
noncomputable def gnae4 : SE := .sub (.v 0) (.c 1)
noncomputable def gnae5 : AE := .dr (.v 0) (.c 1)
noncomputable def gnae6 : AE := .tl (.v 0) (.c 0) (.i (.v 10) .nil)
noncomputable def gnae7 : AE := .tl (.v 0) (.c 0) .nil
noncomputable def gnae8 : AE := .tl gnae7 (.c 0) (.i (.v 10) .nil)
noncomputable def gnae9 : SE := .wrap .i64 gnae0
noncomputable def gnae10 : SE := .bits .or .i64 (.c 0) gnae9
noncomputable def gnae11 : AE := .tl (.v 0) (.c 0) (.i gnae10 .nil)
noncomputable def gnae12 : AE := .tl gnae7 (.c 0) (.i gnae0 .nil)
noncomputable def gnae13 : SE := .mul (.c 2) (.v 0)
noncomputable def gnax0 : Vl := .out 1 [.i gnae0 gnae0, .i (.v 9) (.v 9), .b (.v 0) (.v 0), .i gnae0 gnae0, .i gnae1 (.v 10), .i gnae0 gnae0, .i (.v 9) (.v 9), .i (.v 12) (.v 12), .i gnae3 gnae3, .i (.v 16) (.v 16), .i (.v 17) (.v 17), .b (.v 1) (.v 1), .p 1002 (.i gnae4 (.i (.v 9) (.a gnae5 .nil))) (.i gnae4 (.i (.v 9) (.a gnae5 .nil))), .a gnae6 gnae8 (.c 1) 1, .i gnae0 gnae0, .i gnae0 gnae0, .i (.v 9) (.v 9), .i gnae0 gnae0, .a gnae11 gnae12 (.c 1) 1] [((.eq (.v 10) (.c 0)), true), ((.lt (.c 0) (.v 0)), true), ((.v 0), true), ((.le (.c 0) (.v 0)), true), ((.le (.v 0) (.c 50)), true), ((.le (.c 0) (.v 10)), true), ((.le (.v 10) (.c 255)), true), ((.le (.c 0) (.v 11)), true), ((.le (.v 11) (.c 255)), true), ((.le (.c 0) (.v 12)), true), ((.le (.v 12) (.c 4294967295)), true), ((.le (.c 4) (.v 9)), true), ((.le (.v 9) (.c 18)), true), ((.le (.c 0) (.v 13)), true), ((.le (.v 13) (.c 1000000000)), true), ((.le (.c 0) (.v 14)), true), ((.le (.v 14) (.c 1000000000)), true), ((.ap 2 (.a (.v 0) (.i (.v 0) (.i (.v 10) (.i (.v 11) .nil))))), true)]
noncomputable def gnax1 : Vl := .out 1 [.i gnae0 gnae0, .i (.v 9) (.v 9), .b (.v 0) (.v 0), .i gnae0 gnae0, .i gnae1 (.v 10), .i gnae0 gnae0, .i (.v 9) (.v 9), .i (.v 12) (.v 12), .i gnae3 gnae3, .i (.v 16) (.v 16), .i (.v 17) (.v 17), .b (.v 1) (.v 1), .p 1002 (.i gnae4 (.i (.v 9) (.a gnae5 .nil))) (.i gnae4 (.i (.v 9) (.a gnae5 .nil))), .a gnae6 gnae8 (.c 1) 1, .i gnae0 gnae0, .i gnae0 gnae0, .i (.v 9) (.v 9), .i gnae0 gnae0, .a gnae11 gnae12 (.c 1) 1] [((.le (.v 14) (.v 13)), true), ((.le (.c 4) gnae13), true), ((.eq (.v 10) (.c 0)), false), ((.lt (.c 0) (.v 0)), true), ((.v 0), true), ((.le (.c 0) (.v 0)), true), ((.le (.v 0) (.c 50)), true), ((.le (.c 0) (.v 10)), true), ((.le (.v 10) (.c 255)), true), ((.le (.c 0) (.v 11)), true), ((.le (.v 11) (.c 255)), true), ((.le (.c 0) (.v 12)), true), ((.le (.v 12) (.c 4294967295)), true), ((.le (.c 4) (.v 9)), true), ((.le (.v 9) (.c 18)), true), ((.le (.c 0) (.v 13)), true), ((.le (.v 13) (.c 1000000000)), true), ((.le (.c 0) (.v 14)), true), ((.le (.v 14) (.c 1000000000)), true), ((.ap 2 (.a (.v 0) (.i (.v 0) (.i (.v 10) (.i (.v 11) .nil))))), true)]
noncomputable def gnax2 : Vl := .out 0 [.i (.v 10) (.v 10), .i (.v 9) (.v 9), .b (.v 0) (.v 0), .i (.v 10) (.v 10), .i (.v 11) (.v 11), .i (.v 10) (.v 10), .i (.v 9) (.v 9), .i (.v 12) (.v 12), .i (.v 13) (.v 13), .i (.v 14) (.v 14), .p 1002 (.i (.v 0) (.i (.v 9) (.a (.v 0) .nil))) (.i (.v 0) (.i (.v 9) (.a (.v 0) .nil))), .i (.v 16) (.v 16), .i (.v 17) (.v 17), .b (.v 1) (.v 1)] [((.le (.v 14) (.v 13)), false), ((.le (.c 4) gnae13), true), ((.eq (.v 10) (.c 0)), false), ((.lt (.c 0) (.v 0)), true), ((.v 0), true), ((.le (.c 0) (.v 0)), true), ((.le (.v 0) (.c 50)), true), ((.le (.c 0) (.v 10)), true), ((.le (.v 10) (.c 255)), true), ((.le (.c 0) (.v 11)), true), ((.le (.v 11) (.c 255)), true), ((.le (.c 0) (.v 12)), true), ((.le (.v 12) (.c 4294967295)), true), ((.le (.c 4) (.v 9)), true), ((.le (.v 9) (.c 18)), true), ((.le (.c 0) (.v 13)), true), ((.le (.v 13) (.c 1000000000)), true), ((.le (.c 0) (.v 14)), true), ((.le (.v 14) (.c 1000000000)), true), ((.ap 2 (.a (.v 0) (.i (.v 0) (.i (.v 10) (.i (.v 11) .nil))))), true)]
noncomputable def gnax3 : Vl := .out 0 [.i (.v 10) (.v 10), .i (.v 9) (.v 9), .b (.v 0) (.v 0), .i (.v 10) (.v 10), .i (.v 11) (.v 11), .i (.v 10) (.v 10), .i (.v 9) (.v 9), .i (.v 12) (.v 12), .i (.v 13) (.v 13), .i (.v 14) (.v 14), .p 1002 (.i (.v 0) (.i (.v 9) (.a (.v 0) .nil))) (.i (.v 0) (.i (.v 9) (.a (.v 0) .nil))), .i (.v 16) (.v 16), .i (.v 17) (.v 17), .b (.v 1) (.v 1)] [((.le (.c 4) gnae13), false), ((.eq (.v 10) (.c 0)), false), ((.lt (.c 0) (.v 0)), true), ((.v 0), true), ((.le (.c 0) (.v 0)), true), ((.le (.v 0) (.c 50)), true), ((.le (.c 0) (.v 10)), true), ((.le (.v 10) (.c 255)), true), ((.le (.c 0) (.v 11)), true), ((.le (.v 11) (.c 255)), true), ((.le (.c 0) (.v 12)), true), ((.le (.v 12) (.c 4294967295)), true), ((.le (.c 4) (.v 9)), true), ((.le (.v 9) (.c 18)), true), ((.le (.c 0) (.v 13)), true), ((.le (.v 13) (.c 1000000000)), true), ((.le (.c 0) (.v 14)), true), ((.le (.v 14) (.c 1000000000)), true), ((.ap 2 (.a (.v 0) (.i (.v 0) (.i (.v 10) (.i (.v 11) .nil))))), true)]
noncomputable def gnax4 : Vl := .out 0 [.i (.v 10) (.v 10), .i (.v 9) (.v 9), .b (.v 0) (.v 0), .i (.v 10) (.v 10), .i (.v 11) (.v 11), .i (.v 10) (.v 10), .i (.v 9) (.v 9), .i (.v 12) (.v 12), .i (.v 13) (.v 13), .i (.v 14) (.v 14), .p 1002 (.i (.v 0) (.i (.v 9) (.a (.v 0) .nil))) (.i (.v 0) (.i (.v 9) (.a (.v 0) .nil))), .i (.v 16) (.v 16), .i (.v 17) (.v 17), .b (.v 1) (.v 1)] [((.lt (.c 0) (.v 0)), false), ((.v 0), true), ((.le (.c 0) (.v 0)), true), ((.le (.v 0) (.c 50)), true), ((.le (.c 0) (.v 10)), true), ((.le (.v 10) (.c 255)), true), ((.le (.c 0) (.v 11)), true), ((.le (.v 11) (.c 255)), true), ((.le (.c 0) (.v 12)), true), ((.le (.v 12) (.c 4294967295)), true), ((.le (.c 4) (.v 9)), true), ((.le (.v 9) (.c 18)), true), ((.le (.c 0) (.v 13)), true), ((.le (.v 13) (.c 1000000000)), true), ((.le (.c 0) (.v 14)), true), ((.le (.v 14) (.c 1000000000)), true), ((.ap 2 (.a (.v 0) (.i (.v 0) (.i (.v 10) (.i (.v 11) .nil))))), true)]
noncomputable def gnax5 : Vl := .out 0 [.i (.v 10) (.v 10), .i (.v 9) (.v 9), .b (.v 0) (.v 0), .i (.v 10) (.v 10), .i (.v 11) (.v 11), .i (.v 10) (.v 10), .i (.v 9) (.v 9), .i (.v 12) (.v 12), .i (.v 13) (.v 13), .i (.v 14) (.v 14), .p 1002 (.i (.v 0) (.i (.v 9) (.a (.v 0) .nil))) (.i (.v 0) (.i (.v 9) (.a (.v 0) .nil))), .i (.v 16) (.v 16), .i (.v 17) (.v 17), .b (.v 1) (.v 1)] [((.v 0), false), ((.le (.c 0) (.v 0)), true), ((.le (.v 0) (.c 50)), true), ((.le (.c 0) (.v 10)), true), ((.le (.v 10) (.c 255)), true), ((.le (.c 0) (.v 11)), true), ((.le (.v 11) (.c 255)), true), ((.le (.c 0) (.v 12)), true), ((.le (.v 12) (.c 4294967295)), true), ((.le (.c 4) (.v 9)), true), ((.le (.v 9) (.c 18)), true), ((.le (.c 0) (.v 13)), true), ((.le (.v 13) (.c 1000000000)), true), ((.le (.c 0) (.v 14)), true), ((.le (.v 14) (.c 1000000000)), true), ((.ap 2 (.a (.v 0) (.i (.v 0) (.i (.v 10) (.i (.v 11) .nil))))), true)]
noncomputable def gnals : List Vl := [gnax0, gnax1, gnax2, gnax3, gnax4, gnax5]
theorem gnarun : (run (prm35 Tryd.prog) 900 (enterD (prm35 Tryd.prog) ct35n)).map (vOf (prm35 Tryd.prog) ct35n []) = gnals := by kernel_rfl
-- 6 ways; terms: gnae0, gnae1, gnae2, gnae3, gnae4, gnae5, gnae6, gnae7, gnae8, gnae9, gnae10, gnae11, gnae12, gnae13
noncomputable def gtae0 : SE := .rd (.v 0) (.c 0)
noncomputable def gtae1 : SE := .mx (.v 11) (.v 10)
noncomputable def gtae2 : SE := .tmod (.v 12) (.c 10000)
noncomputable def gtae3 : SE := .add (.c 5000) gtae2
noncomputable def gtae4 : SE := .sub (.v 0) (.c 1)
noncomputable def gtae5 : AE := .dr (.v 0) (.c 1)
noncomputable def gtae6 : AE := .tl (.v 0) (.c 0) (.i (.v 10) .nil)
noncomputable def gtae7 : AE := .tl (.v 0) (.c 0) .nil
noncomputable def gtae8 : AE := .tl gtae7 (.c 0) (.i (.v 10) .nil)
noncomputable def gtae9 : SE := .wrap .i64 gtae0
noncomputable def gtae10 : SE := .bits .or .i64 (.c 0) gtae9
noncomputable def gtae11 : AE := .tl (.v 0) (.c 0) (.i gtae10 .nil)
noncomputable def gtae12 : AE := .tl gtae7 (.c 0) (.i gtae0 .nil)
noncomputable def gtae13 : SE := .bits .or .i64 (.c 0) (.v 10)
noncomputable def gtae14 : AE := .tl (.v 0) (.c 0) (.i gtae13 .nil)
noncomputable def gtae15 : SE := .mul (.c 2) (.v 0)
noncomputable def gtax0 : Vl := .out 1 [.i gtae0 gtae0, .i (.v 9) (.v 9), .b (.v 0) (.v 0), .i gtae0 gtae0, .i gtae1 (.v 10), .i gtae0 gtae0, .i (.v 9) (.v 9), .i (.v 12) (.v 12), .i gtae3 gtae3, .i (.v 16) (.v 16), .i (.v 17) (.v 17), .b (.v 1) (.v 1), .p 1002 (.i gtae4 (.i (.v 9) (.a gtae5 .nil))) (.i gtae4 (.i (.v 9) (.a gtae5 .nil))), .a gtae6 gtae8 (.c 1) 1, .i gtae0 gtae0, .i gtae0 gtae0, .i (.v 9) (.v 9), .i gtae0 gtae0, .a gtae11 gtae12 (.c 1) 1, .a gtae14 gtae8 (.c 1) 1] [((.eq (.v 10) (.c 0)), true), ((.lt (.c 0) (.v 0)), true), ((.v 0), true), ((.le (.c 0) (.v 0)), true), ((.le (.v 0) (.c 50)), true), ((.le (.c 0) (.v 10)), true), ((.le (.v 10) (.c 255)), true), ((.le (.c 0) (.v 11)), true), ((.le (.v 11) (.c 255)), true), ((.le (.c 0) (.v 12)), true), ((.le (.v 12) (.c 4294967295)), true), ((.le (.c 4) (.v 9)), true), ((.le (.v 9) (.c 18)), true), ((.le (.c 0) (.v 13)), true), ((.le (.v 13) (.c 1000000000)), true), ((.le (.c 0) (.v 14)), true), ((.le (.v 14) (.c 1000000000)), true), ((.ap 2 (.a (.v 0) (.i (.v 0) (.i (.v 10) (.i (.v 11) .nil))))), true)]
noncomputable def gtax1 : Vl := .out 1 [.i gtae0 gtae0, .i (.v 9) (.v 9), .b (.v 0) (.v 0), .i gtae0 gtae0, .i gtae1 (.v 10), .i gtae0 gtae0, .i (.v 9) (.v 9), .i (.v 12) (.v 12), .i gtae3 gtae3, .i (.v 16) (.v 16), .i (.v 17) (.v 17), .b (.v 1) (.v 1), .p 1002 (.i gtae4 (.i (.v 9) (.a gtae5 .nil))) (.i gtae4 (.i (.v 9) (.a gtae5 .nil))), .a gtae6 gtae8 (.c 1) 1, .i gtae0 gtae0, .i gtae0 gtae0, .i (.v 9) (.v 9), .i gtae0 gtae0, .a gtae11 gtae12 (.c 1) 1, .a gtae14 gtae8 (.c 1) 1] [((.le (.v 14) (.v 13)), true), ((.le (.c 4) gtae15), true), ((.eq (.v 10) (.c 0)), false), ((.lt (.c 0) (.v 0)), true), ((.v 0), true), ((.le (.c 0) (.v 0)), true), ((.le (.v 0) (.c 50)), true), ((.le (.c 0) (.v 10)), true), ((.le (.v 10) (.c 255)), true), ((.le (.c 0) (.v 11)), true), ((.le (.v 11) (.c 255)), true), ((.le (.c 0) (.v 12)), true), ((.le (.v 12) (.c 4294967295)), true), ((.le (.c 4) (.v 9)), true), ((.le (.v 9) (.c 18)), true), ((.le (.c 0) (.v 13)), true), ((.le (.v 13) (.c 1000000000)), true), ((.le (.c 0) (.v 14)), true), ((.le (.v 14) (.c 1000000000)), true), ((.ap 2 (.a (.v 0) (.i (.v 0) (.i (.v 10) (.i (.v 11) .nil))))), true)]
noncomputable def gtax2 : Vl := .out 0 [.i (.v 10) (.v 10), .i (.v 9) (.v 9), .b (.v 0) (.v 0), .i (.v 10) (.v 10), .i (.v 11) (.v 11), .i (.v 10) (.v 10), .i (.v 9) (.v 9), .i (.v 12) (.v 12), .i (.v 13) (.v 13), .i (.v 14) (.v 14), .p 1002 (.i (.v 0) (.i (.v 9) (.a (.v 0) .nil))) (.i (.v 0) (.i (.v 9) (.a (.v 0) .nil))), .i (.v 16) (.v 16), .i (.v 17) (.v 17), .b (.v 1) (.v 1), .i (.v 10) (.v 10), .i (.v 10) (.v 10), .i (.v 9) (.v 9), .i (.v 10) (.v 10)] [((.le (.v 14) (.v 13)), false), ((.le (.c 4) gtae15), true), ((.eq (.v 10) (.c 0)), false), ((.lt (.c 0) (.v 0)), true), ((.v 0), true), ((.le (.c 0) (.v 0)), true), ((.le (.v 0) (.c 50)), true), ((.le (.c 0) (.v 10)), true), ((.le (.v 10) (.c 255)), true), ((.le (.c 0) (.v 11)), true), ((.le (.v 11) (.c 255)), true), ((.le (.c 0) (.v 12)), true), ((.le (.v 12) (.c 4294967295)), true), ((.le (.c 4) (.v 9)), true), ((.le (.v 9) (.c 18)), true), ((.le (.c 0) (.v 13)), true), ((.le (.v 13) (.c 1000000000)), true), ((.le (.c 0) (.v 14)), true), ((.le (.v 14) (.c 1000000000)), true), ((.ap 2 (.a (.v 0) (.i (.v 0) (.i (.v 10) (.i (.v 11) .nil))))), true)]
noncomputable def gtax3 : Vl := .out 0 [.i (.v 10) (.v 10), .i (.v 9) (.v 9), .b (.v 0) (.v 0), .i (.v 10) (.v 10), .i (.v 11) (.v 11), .i (.v 10) (.v 10), .i (.v 9) (.v 9), .i (.v 12) (.v 12), .i (.v 13) (.v 13), .i (.v 14) (.v 14), .p 1002 (.i (.v 0) (.i (.v 9) (.a (.v 0) .nil))) (.i (.v 0) (.i (.v 9) (.a (.v 0) .nil))), .i (.v 16) (.v 16), .i (.v 17) (.v 17), .b (.v 1) (.v 1), .i (.v 10) (.v 10), .i (.v 10) (.v 10), .i (.v 9) (.v 9), .i (.v 10) (.v 10)] [((.le (.c 4) gtae15), false), ((.eq (.v 10) (.c 0)), false), ((.lt (.c 0) (.v 0)), true), ((.v 0), true), ((.le (.c 0) (.v 0)), true), ((.le (.v 0) (.c 50)), true), ((.le (.c 0) (.v 10)), true), ((.le (.v 10) (.c 255)), true), ((.le (.c 0) (.v 11)), true), ((.le (.v 11) (.c 255)), true), ((.le (.c 0) (.v 12)), true), ((.le (.v 12) (.c 4294967295)), true), ((.le (.c 4) (.v 9)), true), ((.le (.v 9) (.c 18)), true), ((.le (.c 0) (.v 13)), true), ((.le (.v 13) (.c 1000000000)), true), ((.le (.c 0) (.v 14)), true), ((.le (.v 14) (.c 1000000000)), true), ((.ap 2 (.a (.v 0) (.i (.v 0) (.i (.v 10) (.i (.v 11) .nil))))), true)]
noncomputable def gtax4 : Vl := .out 0 [.i (.v 10) (.v 10), .i (.v 9) (.v 9), .b (.v 0) (.v 0), .i (.v 10) (.v 10), .i (.v 11) (.v 11), .i (.v 10) (.v 10), .i (.v 9) (.v 9), .i (.v 12) (.v 12), .i (.v 13) (.v 13), .i (.v 14) (.v 14), .p 1002 (.i (.v 0) (.i (.v 9) (.a (.v 0) .nil))) (.i (.v 0) (.i (.v 9) (.a (.v 0) .nil))), .i (.v 16) (.v 16), .i (.v 17) (.v 17), .b (.v 1) (.v 1), .i (.v 10) (.v 10), .i (.v 10) (.v 10), .i (.v 9) (.v 9), .i (.v 10) (.v 10)] [((.lt (.c 0) (.v 0)), false), ((.v 0), true), ((.le (.c 0) (.v 0)), true), ((.le (.v 0) (.c 50)), true), ((.le (.c 0) (.v 10)), true), ((.le (.v 10) (.c 255)), true), ((.le (.c 0) (.v 11)), true), ((.le (.v 11) (.c 255)), true), ((.le (.c 0) (.v 12)), true), ((.le (.v 12) (.c 4294967295)), true), ((.le (.c 4) (.v 9)), true), ((.le (.v 9) (.c 18)), true), ((.le (.c 0) (.v 13)), true), ((.le (.v 13) (.c 1000000000)), true), ((.le (.c 0) (.v 14)), true), ((.le (.v 14) (.c 1000000000)), true), ((.ap 2 (.a (.v 0) (.i (.v 0) (.i (.v 10) (.i (.v 11) .nil))))), true)]
noncomputable def gtax5 : Vl := .out 0 [.i (.v 10) (.v 10), .i (.v 9) (.v 9), .b (.v 0) (.v 0), .i (.v 10) (.v 10), .i (.v 11) (.v 11), .i (.v 10) (.v 10), .i (.v 9) (.v 9), .i (.v 12) (.v 12), .i (.v 13) (.v 13), .i (.v 14) (.v 14), .p 1002 (.i (.v 0) (.i (.v 9) (.a (.v 0) .nil))) (.i (.v 0) (.i (.v 9) (.a (.v 0) .nil))), .i (.v 16) (.v 16), .i (.v 17) (.v 17), .b (.v 1) (.v 1), .i (.v 10) (.v 10), .i (.v 10) (.v 10), .i (.v 9) (.v 9), .i (.v 10) (.v 10)] [((.v 0), false), ((.le (.c 0) (.v 0)), true), ((.le (.v 0) (.c 50)), true), ((.le (.c 0) (.v 10)), true), ((.le (.v 10) (.c 255)), true), ((.le (.c 0) (.v 11)), true), ((.le (.v 11) (.c 255)), true), ((.le (.c 0) (.v 12)), true), ((.le (.v 12) (.c 4294967295)), true), ((.le (.c 4) (.v 9)), true), ((.le (.v 9) (.c 18)), true), ((.le (.c 0) (.v 13)), true), ((.le (.v 13) (.c 1000000000)), true), ((.le (.c 0) (.v 14)), true), ((.le (.v 14) (.c 1000000000)), true), ((.ap 2 (.a (.v 0) (.i (.v 0) (.i (.v 10) (.i (.v 11) .nil))))), true)]
noncomputable def gtals : List Vl := [gtax0, gtax1, gtax2, gtax3, gtax4, gtax5]
theorem gtarun : (run (prm35 Tryd.prog) 900 (enterD (prm35 Tryd.prog) ct35t)).map (vOf (prm35 Tryd.prog) ct35t []) = gtals := by kernel_rfl
-- 6 ways; terms: gtae0, gtae1, gtae2, gtae3, gtae4, gtae5, gtae6, gtae7, gtae8, gtae9, gtae10, gtae11, gtae12, gtae13, gtae14, gtae15
noncomputable def snax0 : Vl := .go 0 [(130, (.v 13)), (131, (.c 0))] [] [] [((.le (.c 0) (.v 18)), true), ((.le (.v 18) (.c 100000)), true), ((.le (.c 0) (.v 13)), true), ((.le (.v 13) (.c 1000000000)), true)] (.code (.loop (loopB (prm24 Tryd.prog).P 24 1))) (loopK (prm24 Tryd.prog).P 24 1)
noncomputable def snals : List Vl := [snax0]
theorem snarun : (run (prm24 Tryd.prog) 900 (enterD (prm24 Tryd.prog) ct24n)).map (vOf (prm24 Tryd.prog) ct24n (pts24 Tryd.prog .nilptr [])) = snals := by kernel_rfl
-- 1 ways; terms: 
noncomputable def snp0e0 : SE := .add (.v 130) (.c 1)
noncomputable def snp0e1 : SE := .add (.v 131) (.c 1)
noncomputable def snp0e2 : SE := .add (.v 13) (.v 18)
noncomputable def snp0x0 : Vl := .go 0 [(130, snp0e0), (131, snp0e1)] [] [] [((.lt (.v 131) (.v 18)), true), ((.le (.c 0) (.v 18)), true), ((.le (.v 18) (.c 100000)), true), ((.le (.c 0) (.v 131)), true), ((.le (.v 131) (.c 100000)), true), ((.le (.c 0) (.v 130)), true), ((.le (.v 130) (.c 1000200000)), true), ((.le (.v 131) (.v 18)), true)] (.exit .normal) (.loop (loopB (prm24 Tryd.prog).P 24 1) :: loopK (prm24 Tryd.prog).P 24 1)
noncomputable def snp0x1 : Vl := .out 0 [.b (.v 0) (.v 0), .i (.v 10) (.v 10), .i (.v 11) (.v 11), .i (.v 10) (.v 10), .i (.v 9) (.v 9), .i (.v 12) (.v 12), .i (.v 130) snp0e2, .i (.v 14) (.v 14), .p 1002 (.i (.v 0) (.i (.v 9) (.a (.v 0) .nil))) (.i (.v 0) (.i (.v 9) (.a (.v 0) .nil)))] [((.lt (.v 131) (.v 18)), false), ((.le (.c 0) (.v 18)), true), ((.le (.v 18) (.c 100000)), true), ((.le (.c 0) (.v 131)), true), ((.le (.v 131) (.c 100000)), true), ((.le (.c 0) (.v 130)), true), ((.le (.v 130) (.c 1000200000)), true), ((.le (.v 131) (.v 18)), true)]
noncomputable def snp0ls : List Vl := [snp0x0, snp0x1]
theorem snp0run : (run (prm24 Tryd.prog) 900 (ptD (pts24 Tryd.prog .nilptr []) 0 24)).map (vOf (prm24 Tryd.prog) ct24n (pts24 Tryd.prog .nilptr [])) = snp0ls := by kernel_rfl
-- 2 ways; terms: snp0e0, snp0e1, snp0e2
noncomputable def stax0 : Vl := .go 0 [(130, (.v 13)), (131, (.c 0))] [] [] [((.le (.c 0) (.v 18)), true), ((.le (.v 18) (.c 100000)), true), ((.le (.c 0) (.v 13)), true), ((.le (.v 13) (.c 1000000000)), true)] (.code (.loop (loopB (prm24 Tryd.prog).P 24 1))) (loopK (prm24 Tryd.prog).P 24 1)
noncomputable def stals : List Vl := [stax0]
theorem starun : (run (prm24 Tryd.prog) 900 (enterD (prm24 Tryd.prog) ct24t)).map (vOf (prm24 Tryd.prog) ct24t (pts24 Tryd.prog tokP [.any])) = stals := by kernel_rfl
-- 1 ways; terms: 
noncomputable def stp0e0 : SE := .add (.v 130) (.c 1)
noncomputable def stp0e1 : SE := .add (.v 131) (.c 1)
noncomputable def stp0e2 : SE := .add (.v 13) (.v 18)
noncomputable def stp0x0 : Vl := .go 0 [(130, stp0e0), (131, stp0e1)] [] [] [((.lt (.v 131) (.v 18)), true), ((.le (.c 0) (.v 18)), true), ((.le (.v 18) (.c 100000)), true), ((.le (.c 0) (.v 131)), true), ((.le (.v 131) (.c 100000)), true), ((.le (.c 0) (.v 130)), true), ((.le (.v 130) (.c 1000200000)), true), ((.le (.v 131) (.v 18)), true)] (.exit .normal) (.loop (loopB (prm24 Tryd.prog).P 24 1) :: loopK (prm24 Tryd.prog).P 24 1)
noncomputable def stp0x1 : Vl := .out 0 [.b (.v 0) (.v 0), .i (.v 10) (.v 10), .i (.v 11) (.v 11), .i (.v 10) (.v 10), .i (.v 9) (.v 9), .i (.v 12) (.v 12), .i (.v 130) stp0e2, .i (.v 14) (.v 14), .p 1002 (.i (.v 0) (.i (.v 9) (.a (.v 0) .nil))) (.i (.v 0) (.i (.v 9) (.a (.v 0) .nil)))] [((.lt (.v 131) (.v 18)), false), ((.le (.c 0) (.v 18)), true), ((.le (.v 18) (.c 100000)), true), ((.le (.c 0) (.v 131)), true), ((.le (.v 131) (.c 100000)), true), ((.le (.c 0) (.v 130)), true), ((.le (.v 130) (.c 1000200000)), true), ((.le (.v 131) (.v 18)), true)]
noncomputable def stp0ls : List Vl := [stp0x0, stp0x1]
theorem stp0run : (run (prm24 Tryd.prog) 900 (ptD (pts24 Tryd.prog tokP [.any]) 0 24)).map (vOf (prm24 Tryd.prog) ct24t (pts24 Tryd.prog tokP [.any])) = stp0ls := by kernel_rfl
-- 2 ways; terms: stp0e0, stp0e1, stp0e2
variable {E0 E : Env}
theorem shr8 {x : Int} (h0 : 0 ≤ x) (h1 : x ≤ 255) : IntKind.u8.wrap (x.fdiv (2 ^ min ((8 : Int).toNat) IntKind.u16.bits)) = 0 := by
  have e : (2 : Int) ^ min ((8 : Int).toNat) IntKind.u16.bits = 256 := by decide
  rw [e, Int.fdiv_eq_ediv_of_nonneg _ (by omega), show x / 256 = 0 by omega]
  decide
theorem prm13_ok (l : Nat) (hl : l ≤ 20) (E : Env) (hE : E.fn = fns) : PrmOk E (prm13 Tryd.prog l) where
  bt := by
    intro b hb
    have : b = btMkC 23 5 l (.int .u8 (.c 0)) := by simpa [prm13] using hb
    subst this; rw [hE]
    obtain ⟨i, hi, hz, his, hib⟩ : ∃ i, Tryd.prog.info? 5 = some i ∧ i.zero = some (.int .u8 0) ∧ i.size = 1 ∧ i.bytes = 1 := by
      have h : (Tryd.prog.info? 5).map (fun i => (i.zero, i.size, i.bytes)) = some (some (.int .u8 0), 1, 1) := by kernel_rfl
      cases hq : Tryd.prog.info? 5 with
      | none => rw [hq] at h; cases h
      | some i0 =>
        rw [hq] at h
        simp only [Option.map_some, Option.some.injEq, Prod.mk.injEq] at h
        exact ⟨i0, rfl, h.1, h.2.1, h.2.2⟩
    exact btMkC_ok (by kernel_rfl) hi hz rfl his (by omega) (by omega) (fun E β => rfl) rfl
  ct := by intro c hc; cases hc
  mix := Checked.mixed Tryd.checked
  okf := okf_call
  body := okf_body
  mts := by intro x hx; cases hx
  dfr := by intro x hx; cases hx
  dfk := by intro x hx; cases hx
theorem prm35_ok (E : Env) (hE : E.fn = fns) : PrmOk E (prm35 Tryd.prog) where
  bt := by intro b hb; rw [hE]; exact btQ_ok b hb
  ct := by intro c hc; cases hc
  mix := Checked.mixed Tryd.checked
  okf := okf_call
  body := okf_body
  mts := by intro x hx; cases hx
  dfr := by intro x hx; cases hx
  dfk := by intro x hx; cases hx
theorem prm24_ok (E : Env) (hE : E.fn = fns) : PrmOk E (prm24 Tryd.prog) where
  ct := by intro c hc; cases hc
  mix := Checked.mixed Tryd.checked
  okf := okf_call
  body := okf_body
  mts := by intro x hx; cases hx
  dfr := by intro x hx; cases hx
  dfk := by intro x hx; cases hx
theorem bd1_of {F : Fx} (hF : Facts E (bd (.v 1) 0 255)) : 0 ≤ E.i 1 ∧ E.i 1 ≤ 255 := by
  have hF' : Facts E [((.le (.c 0) (.v 1)), true), ((.le (.v 1) (.c 255)), true)] := hF
  simpa only [facts_cons, facts_nil, le_t, d_c, d_v, and_true] using hF'
theorem ct13_of (l : Nat) (hl : l ≤ 20) (hen : enter (prm13 Tryd.prog l) 13 (ct13 (.c l)).args (ct13 (.c l)).heap (ct13 (.c l)).pre = some (enterD (prm13 Tryd.prog l) (ct13 (.c l))))
    (hr : (run (prm13 Tryd.prog l) 300 (enterD (prm13 Tryd.prog l) (ct13 (.c l)))).map (vOf (prm13 Tryd.prog l) (ct13 (.c l)) []) = ials) : CtOk Tryd.prog fns (ct13 (.c l)) := by
  refine ct_of_pts (p := prm13 Tryd.prog l) (pts := []) (n := 300) (c0 := enterD (prm13 Tryd.prog l) (ct13 (.c l))) (fun E hE => prm13_ok l hl E hE) rfl (by intro q hq; cases hq) Tryd.func13 hen (by intro t ht; cases ht) (fun _ _ _ => False) (fun _ _ _ => 0) ials hr ?_ (by intro i t ht; cases ht)
  intro E hE hF
  obtain ⟨a, b⟩ := bd1_of (F := []) hF
  refine ⟨fun a ha => (by cases ha; intro q hq; cases hq), fun x hx => ?_⟩
  unfold ials at hx
  simp only [List.mem_cons, List.not_mem_nil, or_false] at hx
  subst hx
  intro hf
  have H : AgP 100 E E := AgP.refl 100 E
  have r1 : (Eqn.i iae1 (.c 0)).ok E E := shr8 a b
  exact ⟨rfl, by (simp only [List.forall_mem_cons, List.not_mem_nil, false_imp_iff, implies_true, and_true]; (repeat' apply And.intro); all_goals (first | exact Eqn.i_ag (n := 100) (by assumption) _ rfl | exact Eqn.b_ag (n := 100) (by assumption) _ rfl | assumption))⟩
theorem ct13_4 : CtOk Tryd.prog fns (ct13 (.c 4)) := ct13_of 4 (by omega) (by kernel_rfl) (by kernel_rfl)
theorem ct13_5 : CtOk Tryd.prog fns (ct13 (.c 5)) := ct13_of 5 (by omega) (by kernel_rfl) (by kernel_rfl)
theorem ct13_6 : CtOk Tryd.prog fns (ct13 (.c 6)) := ct13_of 6 (by omega) (by kernel_rfl) (by kernel_rfl)
theorem ct13_7 : CtOk Tryd.prog fns (ct13 (.c 7)) := ct13_of 7 (by omega) (by kernel_rfl) (by kernel_rfl)
theorem ct13_8 : CtOk Tryd.prog fns (ct13 (.c 8)) := ct13_of 8 (by omega) (by kernel_rfl) (by kernel_rfl)
theorem ct13_9 : CtOk Tryd.prog fns (ct13 (.c 9)) := ct13_of 9 (by omega) (by kernel_rfl) (by kernel_rfl)
theorem ct13_10 : CtOk Tryd.prog fns (ct13 (.c 10)) := ct13_of 10 (by omega) (by kernel_rfl) (by kernel_rfl)
theorem ct13_11 : CtOk Tryd.prog fns (ct13 (.c 11)) := ct13_of 11 (by omega) (by kernel_rfl) (by kernel_rfl)
theorem ct13_12 : CtOk Tryd.prog fns (ct13 (.c 12)) := ct13_of 12 (by omega) (by kernel_rfl) (by kernel_rfl)
theorem ct13_13 : CtOk Tryd.prog fns (ct13 (.c 13)) := ct13_of 13 (by omega) (by kernel_rfl) (by kernel_rfl)
theorem ct13_14 : CtOk Tryd.prog fns (ct13 (.c 14)) := ct13_of 14 (by omega) (by kernel_rfl) (by kernel_rfl)
theorem ct13_15 : CtOk Tryd.prog fns (ct13 (.c 15)) := ct13_of 15 (by omega) (by kernel_rfl) (by kernel_rfl)
theorem ct13_16 : CtOk Tryd.prog fns (ct13 (.c 16)) := ct13_of 16 (by omega) (by kernel_rfl) (by kernel_rfl)
theorem ct13_17 : CtOk Tryd.prog fns (ct13 (.c 17)) := ct13_of 17 (by omega) (by kernel_rfl) (by kernel_rfl)
theorem ct13_18 : CtOk Tryd.prog fns (ct13 (.c 18)) := ct13_of 18 (by omega) (by kernel_rfl) (by kernel_rfl)
theorem ct13v_ok : CtOk Tryd.prog fns ct13v := by
  intro E β w hE hg hw hF
  refine ⟨fun a ha => (by cases ha; intro q hq; cases hq), ?_⟩
  have h1 : Facts E (bd (.v 1) 0 255) := fun q hq => hF q (List.mem_append_left _ hq)
  have h9 : Facts E [((.le (.c 4) (.v 9)), true), ((.le (.v 9) (.c 18)), true)] := fun q hq => hF q (List.mem_append_right _ hq)
  simp only [facts_cons, facts_nil, le_t, d_c, d_v, and_true] at h9
  have key : ∀ l : Int, E.i 9 = l → CtOk Tryd.prog fns (ct13 (.c l)) → Calls Tryd.prog 13 (SV.denL E β ct13v.args).toArray w (ctPost E β w ct13v) := fun l hl h => by
    obtain ⟨_, h2⟩ := h E β w hE hg hw h1
    have ea : SV.denL E β (ct13 (.c l)).args = SV.denL E β ct13v.args := by
      simp only [ct13, ct13v, SV.denL, SV.den, SE.den, hl]
    rw [ea] at h2
    refine h2.mono ?_
    rintro e w' ⟨a, β', V, ha, he, hw', hx, hf⟩
    cases ha
    refine ⟨{ res := .agg (idC (.v 1) (.v 9)), post := [] }, β', V, rfl, ?_, hw', hx, hf⟩
    rw [he]
    show Ending.returned (SV.den (E.upd xb 0 V) β' (.agg (idC (.v 1) (.c l)))) = Ending.returned (SV.den (E.upd xb 0 V) β' (.agg (idC (.v 1) (.v 9))))
    simp only [Env.upd_zero, SV.den, idC, zs, List.replicate, List.cons_append, List.nil_append, SV.denL, SE.den, hl]
  have : E.i 9 = 4 ∨ E.i 9 = 5 ∨ E.i 9 = 6 ∨ E.i 9 = 7 ∨ E.i 9 = 8 ∨ E.i 9 = 9 ∨ E.i 9 = 10 ∨ E.i 9 = 11 ∨ E.i 9 = 12 ∨ E.i 9 = 13 ∨ E.i 9 = 14 ∨ E.i 9 = 15 ∨ E.i 9 = 16 ∨ E.i 9 = 17 ∨ E.i 9 = 18 := by omega
  rcases this with h | h | h | h | h | h | h | h | h | h | h | h | h | h | h
  · exact key 4 h ct13_4
  · exact key 5 h ct13_5
  · exact key 6 h ct13_6
  · exact key 7 h ct13_7
  · exact key 8 h ct13_8
  · exact key 9 h ct13_9
  · exact key 10 h ct13_10
  · exact key 11 h ct13_11
  · exact key 12 h ct13_12
  · exact key 13 h ct13_13
  · exact key 14 h ct13_14
  · exact key 15 h ct13_15
  · exact key 16 h ct13_16
  · exact key 17 h ct13_17
  · exact key 18 h ct13_18
theorem ct20_ok : CtOk Tryd.prog fns ct20 := by
  refine ct_of_pts (p := prm35 Tryd.prog) (pts := []) (n := 300) (c0 := enterD (prm35 Tryd.prog) ct20) (fun E hE => prm35_ok E hE) rfl (by intro q hq; cases hq) Tryd.func20 (by kernel_rfl) (by intro t ht; cases ht) (fun _ _ _ => False) (fun _ _ _ => 0) kals karun ?_ (by intro i t ht; cases ht)
  intro E hE hF
  obtain ⟨a, b⟩ := bd1_of (F := []) hF
  refine ⟨fun a ha => (by cases ha; intro q hq; cases hq), fun x hx => ?_⟩
  unfold kals at hx
  simp only [List.mem_cons, List.not_mem_nil, or_false] at hx
  subst hx
  intro hf
  have H : AgP 100 E E := AgP.refl 100 E
  have r1 : (Eqn.i kae1 (.c 0)).ok E E := shr8 a b
  exact ⟨rfl, by (simp only [List.forall_mem_cons, List.not_mem_nil, false_imp_iff, implies_true, and_true]; (repeat' apply And.intro); all_goals (first | exact Eqn.i_ag (n := 100) (by assumption) _ rfl | exact Eqn.b_ag (n := 100) (by assumption) _ rfl | assumption))⟩
structure P35 (E : Env) : Prop where
  n0 : 0 ≤ E.i 0
  c0 : 0 ≤ E.i 10
  c1 : E.i 10 ≤ 255
  k0 : 0 ≤ E.i 13
  q : QOk (E.a 0) (E.i 0).toNat (E.i 10) (E.i 11)
theorem pre35 {E : Env} {tok : SV} {ex : List SBlk} (hE : E.fn = fns) (hF : Facts E (ct35 tok ex).pre) : P35 E := by
  have hF' : Facts E [((.le (.c 0) (.v 0)), true), ((.le (.v 0) (.c 50)), true), ((.le (.c 0) (.v 10)), true), ((.le (.v 10) (.c 255)), true), ((.le (.c 0) (.v 11)), true), ((.le (.v 11) (.c 255)), true), ((.le (.c 0) (.v 12)), true), ((.le (.v 12) (.c 4294967295)), true), ((.le (.c 4) (.v 9)), true), ((.le (.v 9) (.c 18)), true), ((.le (.c 0) (.v 13)), true), ((.le (.v 13) (.c 1000000000)), true), ((.le (.c 0) (.v 14)), true), ((.le (.v 14) (.c 1000000000)), true), ((.ap 2 (.a (.v 0) (.i (.v 0) (.i (.v 10) (.i (.v 11) .nil))))), true)] := hF
  simp only [facts_cons, facts_nil, le_t, eq_t, d_c, d_v, and_true] at hF'
  obtain ⟨a1, a2, a3, a4, a5, a6, a7, a8, a9, a10, a11, a12, a13, a14, a15⟩ := hF'
  refine ⟨a1, a3, a4, a11, ?_⟩
  have e' : E.fn.g 2 [.a ((AE.v 0).den E), .i (E.i 0), .i (E.i 10), .i (E.i 11)] = true := a15
  rw [hE] at e'
  have e2 : @decide (QOk ((AE.v 0).den E) (E.i 0).toNat (E.i 10) (E.i 11)) (Classical.propDecidable _) = true := e'
  exact @of_decide_eq_true _ (Classical.propDecidable _) e2
theorem g11 (hE : E0.fn = fns) : (SB.ap 11 sl5).den E0 = shd (E0.i 0).toNat (E0.i 10) (E0.i 13) (E0.i 14) (E0.b 0) := by
  have e : (SB.ap 11 sl5).den E0 = shd (E0.i 0).toNat (E0.i 10) (E0.i 13) (E0.i 14) (decide (b2i (E0.b 0) = 1)) := by simp only [SB.den, sl5, SL.den, SE.den, hE]; rfl
  rw [e]
  cases E0.b 0 <;> rfl
theorem alt35_0 {tok : SV} {ex : List SBlk} (hE0 : E0.fn = fns) (h : shd (E0.i 0).toNat (E0.i 10) (E0.i 13) (E0.i 14) (E0.b 0) = false) : altSel E0 (ct35 tok ex).alts = (ct35 tok ex).alts[0]? := by
  have : (SB.not (.ap 11 sl5)).den E0 = true := by simp only [SB.den]; rw [show E0.fn.g 11 (sl5.den E0) = (SB.ap 11 sl5).den E0 from rfl, g11 hE0, h]; rfl
  simp only [ct35, altSel, this, if_true, List.getElem?_cons_zero]
theorem alt35_1 {tok : SV} {ex : List SBlk} (hE0 : E0.fn = fns) (h : shd (E0.i 0).toNat (E0.i 10) (E0.i 13) (E0.i 14) (E0.b 0) = true) : altSel E0 (ct35 tok ex).alts = (ct35 tok ex).alts[1]? := by
  have : (SB.not (.ap 11 sl5)).den E0 = false := by simp only [SB.den]; rw [show E0.fn.g 11 (sl5.den E0) = (SB.ap 11 sl5).den E0 from rfl, g11 hE0, h]; rfl
  simp only [ct35, altSel, this, if_true, List.getElem?_cons_zero, List.getElem?_cons_succ, Bool.false_eq_true, if_false]
  rfl
theorem add_ok {x y : SE} (h : x.den E = y.den E0) : (Eqn.a (.tl (.v 0) (.c 0) (.i x .nil)) (.tl (.tl (.v 0) (.c 0) .nil) (.c 0) (.i y .nil)) (.c 1) 1).ok E E0 := fun j hj => by
  have : j = 0 := by
    rw [d_c] at hj; omega
  subst this
  simp only [AE.den, d_c, Int.toNat_zero, Nat.not_lt_zero, if_false, Nat.sub_zero]
  exact h
theorem wrap255 {x : Int} (h0 : 0 ≤ x) (h1 : x ≤ 255) : bits .or .i64 0 (IntKind.i64.wrap x) = x := by
  rw [IntKind.wrap_i64, show (x + 9223372036854775808) % 18446744073709551616 - 9223372036854775808 = x by omega]
  exact bits0 h0 (by omega)
theorem ct35n_ok : CtOk Tryd.prog fns ct35n := by
  refine ct_of_pts (p := prm35 Tryd.prog) (pts := []) (n := 900) (c0 := enterD (prm35 Tryd.prog) ct35n) (fun E hE => prm35_ok E hE) rfl (by intro q hq; cases hq) Tryd.func35 (by kernel_rfl) (by intro t ht; cases ht) (fun _ _ _ => False) (fun _ _ _ => 0) gnals gnarun ?_ (by intro i t ht; cases ht)
  intro E hE hF
  have h := pre35 (tok := .nilptr) (ex := []) hE hF
  have H : AgP 100 E E := AgP.refl 100 E
  refine ⟨fun a ha => ?_, fun x hx => ?_⟩
  · have : ∀ a ∈ ct35n.alts, a.facts = [] := by simp [ct35n, ct35]
    have hm : a ∈ ct35n.alts := by
      unfold ct35n ct35 at ha ⊢
      simp only [altSel] at ha
      split at ha
      · cases ha; simp
      · split at ha
        · cases ha; simp
        · cases ha
    rw [this a hm]; intro q hq; cases hq
  · have up : 0 < E.i 0 → (Eqn.i (.mx (.v 11) (.v 10)) (.v 10)).ok E E ∧ (Eqn.a (.tl (.v 0) (.c 0) (.i (.v 10) .nil)) (.tl (.tl (.v 0) (.c 0) .nil) (.c 0) (.i (.v 10) .nil)) (.c 1) 1).ok E E ∧
        (Eqn.a (.tl (.v 0) (.c 0) (.i (.bits .or .i64 (.c 0) (.wrap .i64 (.rd (.v 0) (.c 0)))) .nil)) (.tl (.tl (.v 0) (.c 0) .nil) (.c 0) (.i (.rd (.v 0) (.c 0)) .nil)) (.c 1) 1).ok E E ∧
        (Eqn.a (.tl (.v 0) (.c 0) (.i (.bits .or .i64 (.c 0) (.v 10)) .nil)) (.tl (.tl (.v 0) (.c 0) .nil) (.c 0) (.i (.v 10) .nil)) (.c 1) 1).ok E E ∧
        (Eqn.p 1002 (.i (.sub (.v 0) (.c 1)) (.i (.v 9) (.a (.dr (.v 0) (.c 1)) .nil))) (.i (.sub (.v 0) (.c 1)) (.i (.v 9) (.a (.dr (.v 0) (.c 1)) .nil)))).ok E E := fun hn => by
      have hb := h.q.1.1 0 (by omega)
      have h3 := h.q.2.2.1
      refine ⟨?_, add_ok rfl, add_ok (wrap255 hb.1 hb.2), add_ok (bits0 h.c0 (by have := h.c1; show E.i 10 ≤ _; omega)), Eqn.p_ag H _ _ rfl⟩
      show imx (E.i 11) (E.i 10) = E.i 10
      unfold imx
      split <;> omega
    have hs : (Eqn.p 1002 (.i (.v 0) (.i (.v 9) (.a (.v 0) .nil))) (.i (.v 0) (.i (.v 9) (.a (.v 0) .nil)))).ok E E := Eqn.p_ag H _ _ rfl
    unfold gnals at hx
    simp only [List.mem_cons, List.not_mem_nil, or_false] at hx
    rcases hx with rfl | rfl | rfl | rfl | rfl | rfl
    · intro hf
      have h1 := hf (SB.eq (.v 10) (.c 0), true) (by simp)
      have h2 := hf (SB.lt (.c 0) (.v 0), true) (by simp)
      have h3 : E.b 0 = true := hf (SB.v 0, true) (by simp)
      simp only [eq_t, lt_t, d_v, d_c] at h1 h2
      obtain ⟨r1, r2, r3, r4, r5⟩ := up h2
      refine ⟨alt35_1 hE ?_, by (simp only [List.forall_mem_cons, List.not_mem_nil, false_imp_iff, implies_true, and_true]; (repeat' apply And.intro); all_goals (first | exact Eqn.i_ag (n := 100) (by assumption) _ rfl | exact Eqn.b_ag (n := 100) (by assumption) _ rfl | assumption))⟩
      unfold shd
      rw [h3, decide_eq_true (show 0 < (E.i 0).toNat ∧ E.i 10 = 0 from ⟨by omega, h1⟩)]; rfl
    · intro hf
      have h1 := hf (SB.le (.v 14) (.v 13), true) (by simp)
      have h2 := hf (SB.lt (.c 0) (.v 0), true) (by simp)
      have h3 : E.b 0 = true := hf (SB.v 0, true) (by simp)
      have h4 := hf (SB.le (.c 4) gnae13, true) (by simp)
      simp only [lt_t, le_t, d_v, d_c] at h1 h2 h4
      have h4' : 4 ≤ 2 * E.i 0 := h4
      obtain ⟨r1, r2, r3, r4, r5⟩ := up h2
      refine ⟨alt35_1 hE ?_, by (simp only [List.forall_mem_cons, List.not_mem_nil, false_imp_iff, implies_true, and_true]; (repeat' apply And.intro); all_goals (first | exact Eqn.i_ag (n := 100) (by assumption) _ rfl | exact Eqn.b_ag (n := 100) (by assumption) _ rfl | assumption))⟩
      unfold shd
      rw [h3, decide_eq_true (show 4 ≤ 2 * (E.i 0).toNat ∧ E.i 14 ≤ E.i 13 from ⟨by omega, h1⟩), Bool.or_true]; rfl
    · intro hf
      have h1 := hf (SB.le (.v 14) (.v 13), false) (by simp)
      have h2 := hf (SB.eq (.v 10) (.c 0), false) (by simp)
      simp only [le_f, d_v, d_c] at h1
      have h2 : ¬ E.i 10 = 0 := by simpa [SB.den, SE.den] using h2
      refine ⟨alt35_0 hE ?_, by (simp only [List.forall_mem_cons, List.not_mem_nil, false_imp_iff, implies_true, and_true]; (repeat' apply And.intro); all_goals (first | exact Eqn.i_ag (n := 100) (by assumption) _ rfl | exact Eqn.b_ag (n := 100) (by assumption) _ rfl | assumption))⟩
      unfold shd
      rw [decide_eq_false (show ¬ (4 ≤ 2 * (E.i 0).toNat ∧ E.i 14 ≤ E.i 13) from fun h => by omega), decide_eq_false (show ¬ (0 < (E.i 0).toNat ∧ E.i 10 = 0) from fun h => h2 h.2)]; simp
    · intro hf
      have h1 := hf (SB.le (.c 4) gnae13, false) (by simp)
      have h2 := hf (SB.eq (.v 10) (.c 0), false) (by simp)
      simp only [le_f, d_v, d_c] at h1
      have h1' : 2 * E.i 0 < 4 := h1
      have h2 : ¬ E.i 10 = 0 := by simpa [SB.den, SE.den] using h2
      refine ⟨alt35_0 hE ?_, by (simp only [List.forall_mem_cons, List.not_mem_nil, false_imp_iff, implies_true, and_true]; (repeat' apply And.intro); all_goals (first | exact Eqn.i_ag (n := 100) (by assumption) _ rfl | exact Eqn.b_ag (n := 100) (by assumption) _ rfl | assumption))⟩
      unfold shd
      rw [decide_eq_false (show ¬ (4 ≤ 2 * (E.i 0).toNat ∧ E.i 14 ≤ E.i 13) from fun h => by omega), decide_eq_false (show ¬ (0 < (E.i 0).toNat ∧ E.i 10 = 0) from fun h => h2 h.2)]; simp
    · intro hf
      have h1 := hf (SB.lt (.c 0) (.v 0), false) (by simp)
      simp only [lt_f, d_v, d_c] at h1
      refine ⟨alt35_0 hE ?_, by (simp only [List.forall_mem_cons, List.not_mem_nil, false_imp_iff, implies_true, and_true]; (repeat' apply And.intro); all_goals (first | exact Eqn.i_ag (n := 100) (by assumption) _ rfl | exact Eqn.b_ag (n := 100) (by assumption) _ rfl | assumption))⟩
      unfold shd
      rw [decide_eq_false (show ¬ (4 ≤ 2 * (E.i 0).toNat ∧ E.i 14 ≤ E.i 13) from fun h => by omega), decide_eq_false (show ¬ (0 < (E.i 0).toNat ∧ E.i 10 = 0) from fun h => by omega)]; simp
    · intro hf
      have h1 : E.b 0 = false := hf (SB.v 0, false) (by simp)
      refine ⟨alt35_0 hE ?_, by (simp only [List.forall_mem_cons, List.not_mem_nil, false_imp_iff, implies_true, and_true]; (repeat' apply And.intro); all_goals (first | exact Eqn.i_ag (n := 100) (by assumption) _ rfl | exact Eqn.b_ag (n := 100) (by assumption) _ rfl | assumption))⟩
      unfold shd
      rw [h1]; rfl
structure I24n (E0 E : Env) (i : Nat) : Prop where
  ag : AgP 100 E0 E
  h130 : E.i 130 = E0.i 13 + i
  h131 : E.i 131 = i
  le : (i : Int) ≤ E0.i 18
theorem ct24n_ok : CtOk Tryd.prog fns ct24n := by
  refine ct_of_pts (p := prm24 Tryd.prog) (pts := pts24 Tryd.prog .nilptr []) (n := 900) (c0 := enterD (prm24 Tryd.prog) ct24n) (fun E hE => prm24_ok E hE) rfl (by intro q hq; cases hq) Tryd.func24 (by kernel_rfl) ?_ (fun E0 _ E => ∃ i, I24n E0 E i) (fun E0 _ E => (E0.i 18 - E.i 131).toNat) snals snarun ?_ ?_
  · intro t ht
    simp only [pts24, List.mem_cons, List.not_mem_nil, or_false] at ht
    subst ht
    exact ⟨by kernel_rfl, by decide⟩
  · intro E hE hF
    refine ⟨fun a ha => (by cases ha; intro q hq; cases hq), fun x hx => ?_⟩
    unfold snals at hx
    simp only [List.mem_cons, List.not_mem_nil, or_false] at hx
    subst hx
    intro hf
    have h1 := hf (SB.le (.c 0) (.v 18), true) (by simp)
    simp only [le_t, d_c, d_v] at h1
    exact ⟨⟨_, rfl, .inl ⟨rfl, rfl⟩⟩, fun o => ⟨⟨0, (AgP.refl 100 E).put o, (Int.add_zero _).symm, rfl, h1⟩, fun b hb => by cases hb⟩⟩
  · intro k t ht
    have hk : k = 0 := by
      have := (List.getElem?_eq_some_iff.1 ht).1
      simp [pts24] at this; omega
    subst hk
    refine ⟨snp0ls, by rw [← ptD_some ht ct24n.g]; exact snp0run, fun E0 E hE0 hE hF0 ⟨i, hI⟩ => ?_⟩
    have H := hI.ag
    have hF' : Facts E0 [((.le (.c 0) (.v 18)), true), ((.le (.v 18) (.c 100000)), true), ((.le (.c 0) (.v 13)), true), ((.le (.v 13) (.c 1000000000)), true)] := hF0
    simp only [facts_cons, facts_nil, le_t, d_c, d_v, and_true] at hF'
    obtain ⟨a1, a2, a3, a4⟩ := hF'
    have q18 := H.i 18 (by decide)
    have h130 := hI.h130; have h131 := hI.h131; have hle := hI.le
    refine ⟨?_, fun x hx => ?_⟩
    · obtain rfl := Option.some.inj ht
      show Facts E [((.le (.c 0) (.v 18)), true), ((.le (.v 18) (.c 100000)), true), ((.le (.c 0) (.v 131)), true), ((.le (.v 131) (.c 100000)), true), ((.le (.c 0) (.v 130)), true), ((.le (.v 130) (.c 1000200000)), true), ((.le (.v 131) (.v 18)), true)]
      simp only [facts_cons, facts_nil, le_t, d_c, d_v, and_true]
      omega
    · unfold snp0ls at hx
      simp only [List.mem_cons, List.not_mem_nil, or_false] at hx
      rcases hx with rfl | rfl
      · intro hf
        have h1 := hf (SB.lt (.v 131) (.v 18), true) (by simp)
        simp only [lt_t, d_v] at h1
        refine ⟨⟨_, rfl, .inr ⟨rfl, rfl⟩⟩, fun o => ⟨⟨i + 1, H.put o, ?_, ?_, by omega⟩, fun b hb => ?_⟩⟩
        · show E.i 130 + 1 = _
          omega
        · show E.i 131 + 1 = _
          omega
        · obtain rfl := Option.some.inj hb
          show (E0.i 18 - (E.i 131 + 1)).toNat < _
          omega
      · intro hf
        have h1 := hf (SB.lt (.v 131) (.v 18), false) (by simp)
        simp only [lt_f, d_v] at h1
        have r1 : (Eqn.i (.v 130) (.add (.v 13) (.v 18))).ok E E0 := by
          show E.i 130 = E0.i 13 + E0.i 18
          omega
        have r2 : (Eqn.p 1002 (.i (.v 0) (.i (.v 9) (.a (.v 0) .nil))) (.i (.v 0) (.i (.v 9) (.a (.v 0) .nil)))).ok E E0 := Eqn.p_ag H _ _ rfl
        exact ⟨rfl, by (simp only [List.forall_mem_cons, List.not_mem_nil, false_imp_iff, implies_true, and_true]; (repeat' apply And.intro); all_goals (first | exact Eqn.i_ag (n := 100) (by assumption) _ rfl | exact Eqn.b_ag (n := 100) (by assumption) _ rfl | assumption))⟩
theorem ct35t_ok : CtOk Tryd.prog fns ct35t := by
  refine ct_of_pts (p := prm35 Tryd.prog) (pts := []) (n := 900) (c0 := enterD (prm35 Tryd.prog) ct35t) (fun E hE => prm35_ok E hE) rfl (by intro q hq; cases hq) Tryd.func35 (by kernel_rfl) (by intro t ht; cases ht) (fun _ _ _ => False) (fun _ _ _ => 0) gtals gtarun ?_ (by intro i t ht; cases ht)
  intro E hE hF
  have h := pre35 (tok := tokT) (ex := [.cells (enC (.v 10)) 113]) hE hF
  have H : AgP 100 E E := AgP.refl 100 E
  refine ⟨fun a ha => ?_, fun x hx => ?_⟩
  · have : ∀ a ∈ ct35t.alts, a.facts = [] := by simp [ct35t, ct35]
    have hm : a ∈ ct35t.alts := by
      unfold ct35t ct35 at ha ⊢
      simp only [altSel] at ha
      split at ha
      · cases ha; simp
      · split at ha
        · cases ha; simp
        · cases ha
    rw [this a hm]; intro q hq; cases hq
  · have up : 0 < E.i 0 → (Eqn.i (.mx (.v 11) (.v 10)) (.v 10)).ok E E ∧ (Eqn.a (.tl (.v 0) (.c 0) (.i (.v 10) .nil)) (.tl (.tl (.v 0) (.c 0) .nil) (.c 0) (.i (.v 10) .nil)) (.c 1) 1).ok E E ∧
        (Eqn.a (.tl (.v 0) (.c 0) (.i (.bits .or .i64 (.c 0) (.wrap .i64 (.rd (.v 0) (.c 0)))) .nil)) (.tl (.tl (.v 0) (.c 0) .nil) (.c 0) (.i (.rd (.v 0) (.c 0)) .nil)) (.c 1) 1).ok E E ∧
        (Eqn.a (.tl (.v 0) (.c 0) (.i (.bits .or .i64 (.c 0) (.v 10)) .nil)) (.tl (.tl (.v 0) (.c 0) .nil) (.c 0) (.i (.v 10) .nil)) (.c 1) 1).ok E E ∧
        (Eqn.p 1002 (.i (.sub (.v 0) (.c 1)) (.i (.v 9) (.a (.dr (.v 0) (.c 1)) .nil))) (.i (.sub (.v 0) (.c 1)) (.i (.v 9) (.a (.dr (.v 0) (.c 1)) .nil)))).ok E E := fun hn => by
      have hb := h.q.1.1 0 (by omega)
      have h3 := h.q.2.2.1
      refine ⟨?_, add_ok rfl, add_ok (wrap255 hb.1 hb.2), add_ok (bits0 h.c0 (by have := h.c1; show E.i 10 ≤ _; omega)), Eqn.p_ag H _ _ rfl⟩
      show imx (E.i 11) (E.i 10) = E.i 10
      unfold imx
      split <;> omega
    have hs : (Eqn.p 1002 (.i (.v 0) (.i (.v 9) (.a (.v 0) .nil))) (.i (.v 0) (.i (.v 9) (.a (.v 0) .nil)))).ok E E := Eqn.p_ag H _ _ rfl
    unfold gtals at hx
    simp only [List.mem_cons, List.not_mem_nil, or_false] at hx
    rcases hx with rfl | rfl | rfl | rfl | rfl | rfl
    · intro hf
      have h1 := hf (SB.eq (.v 10) (.c 0), true) (by simp)
      have h2 := hf (SB.lt (.c 0) (.v 0), true) (by simp)
      have h3 : E.b 0 = true := hf (SB.v 0, true) (by simp)
      simp only [eq_t, lt_t, d_v, d_c] at h1 h2
      obtain ⟨r1, r2, r3, r4, r5⟩ := up h2
      refine ⟨alt35_1 hE ?_, by (simp only [List.forall_mem_cons, List.not_mem_nil, false_imp_iff, implies_true, and_true]; (repeat' apply And.intro); all_goals (first | exact Eqn.i_ag (n := 100) (by assumption) _ rfl | exact Eqn.b_ag (n := 100) (by assumption) _ rfl | assumption))⟩
      unfold shd
      rw [h3, decide_eq_true (show 0 < (E.i 0).toNat ∧ E.i 10 = 0 from ⟨by omega, h1⟩)]; rfl
    · intro hf
      have h1 := hf (SB.le (.v 14) (.v 13), true) (by simp)
      have h2 := hf (SB.lt (.c 0) (.v 0), true) (by simp)
      have h3 : E.b 0 = true := hf (SB.v 0, true) (by simp)
      have h4 := hf (SB.le (.c 4) gtae15, true) (by simp)
      simp only [lt_t, le_t, d_v, d_c] at h1 h2 h4
      have h4' : 4 ≤ 2 * E.i 0 := h4
      obtain ⟨r1, r2, r3, r4, r5⟩ := up h2
      refine ⟨alt35_1 hE ?_, by (simp only [List.forall_mem_cons, List.not_mem_nil, false_imp_iff, implies_true, and_true]; (repeat' apply And.intro); all_goals (first | exact Eqn.i_ag (n := 100) (by assumption) _ rfl | exact Eqn.b_ag (n := 100) (by assumption) _ rfl | assumption))⟩
      unfold shd
      rw [h3, decide_eq_true (show 4 ≤ 2 * (E.i 0).toNat ∧ E.i 14 ≤ E.i 13 from ⟨by omega, h1⟩), Bool.or_true]; rfl
    · intro hf
      have h1 := hf (SB.le (.v 14) (.v 13), false) (by simp)
      have h2 := hf (SB.eq (.v 10) (.c 0), false) (by simp)
      simp only [le_f, d_v, d_c] at h1
      have h2 : ¬ E.i 10 = 0 := by simpa [SB.den, SE.den] using h2
      refine ⟨alt35_0 hE ?_, by (simp only [List.forall_mem_cons, List.not_mem_nil, false_imp_iff, implies_true, and_true]; (repeat' apply And.intro); all_goals (first | exact Eqn.i_ag (n := 100) (by assumption) _ rfl | exact Eqn.b_ag (n := 100) (by assumption) _ rfl | assumption))⟩
      unfold shd
      rw [decide_eq_false (show ¬ (4 ≤ 2 * (E.i 0).toNat ∧ E.i 14 ≤ E.i 13) from fun h => by omega), decide_eq_false (show ¬ (0 < (E.i 0).toNat ∧ E.i 10 = 0) from fun h => h2 h.2)]; simp
    · intro hf
      have h1 := hf (SB.le (.c 4) gtae15, false) (by simp)
      have h2 := hf (SB.eq (.v 10) (.c 0), false) (by simp)
      simp only [le_f, d_v, d_c] at h1
      have h1' : 2 * E.i 0 < 4 := h1
      have h2 : ¬ E.i 10 = 0 := by simpa [SB.den, SE.den] using h2
      refine ⟨alt35_0 hE ?_, by (simp only [List.forall_mem_cons, List.not_mem_nil, false_imp_iff, implies_true, and_true]; (repeat' apply And.intro); all_goals (first | exact Eqn.i_ag (n := 100) (by assumption) _ rfl | exact Eqn.b_ag (n := 100) (by assumption) _ rfl | assumption))⟩
      unfold shd
      rw [decide_eq_false (show ¬ (4 ≤ 2 * (E.i 0).toNat ∧ E.i 14 ≤ E.i 13) from fun h => by omega), decide_eq_false (show ¬ (0 < (E.i 0).toNat ∧ E.i 10 = 0) from fun h => h2 h.2)]; simp
    · intro hf
      have h1 := hf (SB.lt (.c 0) (.v 0), false) (by simp)
      simp only [lt_f, d_v, d_c] at h1
      refine ⟨alt35_0 hE ?_, by (simp only [List.forall_mem_cons, List.not_mem_nil, false_imp_iff, implies_true, and_true]; (repeat' apply And.intro); all_goals (first | exact Eqn.i_ag (n := 100) (by assumption) _ rfl | exact Eqn.b_ag (n := 100) (by assumption) _ rfl | assumption))⟩
      unfold shd
      rw [decide_eq_false (show ¬ (4 ≤ 2 * (E.i 0).toNat ∧ E.i 14 ≤ E.i 13) from fun h => by omega), decide_eq_false (show ¬ (0 < (E.i 0).toNat ∧ E.i 10 = 0) from fun h => by omega)]; simp
    · intro hf
      have h1 : E.b 0 = false := hf (SB.v 0, false) (by simp)
      refine ⟨alt35_0 hE ?_, by (simp only [List.forall_mem_cons, List.not_mem_nil, false_imp_iff, implies_true, and_true]; (repeat' apply And.intro); all_goals (first | exact Eqn.i_ag (n := 100) (by assumption) _ rfl | exact Eqn.b_ag (n := 100) (by assumption) _ rfl | assumption))⟩
      unfold shd
      rw [h1]; rfl
structure I24t (E0 E : Env) (i : Nat) : Prop where
  ag : AgP 100 E0 E
  h130 : E.i 130 = E0.i 13 + i
  h131 : E.i 131 = i
  le : (i : Int) ≤ E0.i 18
theorem ct24t_ok : CtOk Tryd.prog fns ct24t := by
  refine ct_of_pts (p := prm24 Tryd.prog) (pts := pts24 Tryd.prog tokP [.any]) (n := 900) (c0 := enterD (prm24 Tryd.prog) ct24t) (fun E hE => prm24_ok E hE) rfl (by intro q hq; cases hq) Tryd.func24 (by kernel_rfl) ?_ (fun E0 _ E => ∃ i, I24t E0 E i) (fun E0 _ E => (E0.i 18 - E.i 131).toNat) stals starun ?_ ?_
  · intro t ht
    simp only [pts24, List.mem_cons, List.not_mem_nil, or_false] at ht
    subst ht
    exact ⟨by kernel_rfl, by decide⟩
  · intro E hE hF
    refine ⟨fun a ha => (by cases ha; intro q hq; cases hq), fun x hx => ?_⟩
    unfold stals at hx
    simp only [List.mem_cons, List.not_mem_nil, or_false] at hx
    subst hx
    intro hf
    have h1 := hf (SB.le (.c 0) (.v 18), true) (by simp)
    simp only [le_t, d_c, d_v] at h1
    exact ⟨⟨_, rfl, .inl ⟨rfl, rfl⟩⟩, fun o => ⟨⟨0, (AgP.refl 100 E).put o, (Int.add_zero _).symm, rfl, h1⟩, fun b hb => by cases hb⟩⟩
  · intro k t ht
    have hk : k = 0 := by
      have := (List.getElem?_eq_some_iff.1 ht).1
      simp [pts24] at this; omega
    subst hk
    refine ⟨stp0ls, by rw [← ptD_some ht ct24t.g]; exact stp0run, fun E0 E hE0 hE hF0 ⟨i, hI⟩ => ?_⟩
    have H := hI.ag
    have hF' : Facts E0 [((.le (.c 0) (.v 18)), true), ((.le (.v 18) (.c 100000)), true), ((.le (.c 0) (.v 13)), true), ((.le (.v 13) (.c 1000000000)), true)] := hF0
    simp only [facts_cons, facts_nil, le_t, d_c, d_v, and_true] at hF'
    obtain ⟨a1, a2, a3, a4⟩ := hF'
    have q18 := H.i 18 (by decide)
    have h130 := hI.h130; have h131 := hI.h131; have hle := hI.le
    refine ⟨?_, fun x hx => ?_⟩
    · obtain rfl := Option.some.inj ht
      show Facts E [((.le (.c 0) (.v 18)), true), ((.le (.v 18) (.c 100000)), true), ((.le (.c 0) (.v 131)), true), ((.le (.v 131) (.c 100000)), true), ((.le (.c 0) (.v 130)), true), ((.le (.v 130) (.c 1000200000)), true), ((.le (.v 131) (.v 18)), true)]
      simp only [facts_cons, facts_nil, le_t, d_c, d_v, and_true]
      omega
    · unfold stp0ls at hx
      simp only [List.mem_cons, List.not_mem_nil, or_false] at hx
      rcases hx with rfl | rfl
      · intro hf
        have h1 := hf (SB.lt (.v 131) (.v 18), true) (by simp)
        simp only [lt_t, d_v] at h1
        refine ⟨⟨_, rfl, .inr ⟨rfl, rfl⟩⟩, fun o => ⟨⟨i + 1, H.put o, ?_, ?_, by omega⟩, fun b hb => ?_⟩⟩
        · show E.i 130 + 1 = _
          omega
        · show E.i 131 + 1 = _
          omega
        · obtain rfl := Option.some.inj hb
          show (E0.i 18 - (E.i 131 + 1)).toNat < _
          omega
      · intro hf
        have h1 := hf (SB.lt (.v 131) (.v 18), false) (by simp)
        simp only [lt_f, d_v] at h1
        have r1 : (Eqn.i (.v 130) (.add (.v 13) (.v 18))).ok E E0 := by
          show E.i 130 = E0.i 13 + E0.i 18
          omega
        have r2 : (Eqn.p 1002 (.i (.v 0) (.i (.v 9) (.a (.v 0) .nil))) (.i (.v 0) (.i (.v 9) (.a (.v 0) .nil)))).ok E E0 := Eqn.p_ag H _ _ rfl
        exact ⟨rfl, by (simp only [List.forall_mem_cons, List.not_mem_nil, false_imp_iff, implies_true, and_true]; (repeat' apply And.intro); all_goals (first | exact Eqn.i_ag (n := 100) (by assumption) _ rfl | exact Eqn.b_ag (n := 100) (by assumption) _ rfl | assumption))⟩
end Go.Proofs.YtjanndmmhjnpcaaDoor
