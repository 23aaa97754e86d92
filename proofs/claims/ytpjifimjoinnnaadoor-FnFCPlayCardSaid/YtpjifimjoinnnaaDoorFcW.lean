/- Contracts of flow control's methods are kept. -/
import Derived.Test.YtpjifimjoinnnaaDoorFcS
import Derived.KernelRfl
set_option autoImplicit true
set_option relaxedAutoImplicit true
set_option linter.unusedVariables false
set_option linter.unusedSimpArgs false
set_option maxRecDepth 100000
set_option maxHeartbeats 8000000
namespace Go.Proofs.YtpjifimjoinnnaaDoor
open Go Go.Sy Go.RowKit
variable {E : Env}
noncomputable def de0 : SE := .add (.v 22) (.v 24)
noncomputable def de1 : SE := .ap 5 (.i (.v 51) (.i (.v 40) (.i (.v 22) (.i (.v 23) (.i (.v 24) (.i (.v 25) (.i (.v 26) (.i (.v 27) .nil))))))))
noncomputable def de2 : SE := .ap 1 (.i (.v 51) (.i (.v 40) (.i (.v 22) (.i (.v 23) (.i (.v 24) (.i (.v 25) (.i (.v 26) (.i (.v 27) .nil))))))))
noncomputable def de3 : SE := .ap 6 (.i de2 (.i (.v 24) (.i (.v 5) (.i (.v 6) .nil))))
noncomputable def de4 : SE := .ap 7 (.i de2 (.i (.v 24) (.i (.v 5) (.i (.v 7) (.i (.v 51) .nil)))))
noncomputable def de5 : SE := .ap 8 (.i de2 (.i (.v 24) (.i (.v 5) (.i (.v 8) (.i (.v 3) .nil)))))
noncomputable def de6 : SE := .ap 4 (.i (.v 51) (.i (.v 40) (.i (.v 22) (.i (.v 23) (.i (.v 24) (.i (.v 25) (.i (.v 26) (.i (.v 27) .nil))))))))
noncomputable def de7 : SE := .ap 2 (.i (.v 51) (.i (.v 22) (.i (.v 23) (.i (.v 24) (.i (.v 26) (.i (.v 27) .nil))))))
noncomputable def de8 : SE := .ap 3 (.i (.v 22) (.i (.v 23) (.i (.v 24) (.i (.v 27) .nil))))
noncomputable def de9 : SE := .mul (.v 24) (.c 3)
noncomputable def de10 : SE := .tdiv de9 (.c 2)
noncomputable def de11 : SE := .sub (.v 22) (.v 27)
noncomputable def de12 : SE := .tdiv (.v 24) (.c 2)
noncomputable def de13 : SE := .sub (.v 23) (.v 22)
noncomputable def de14 : SE := .tdiv de9 (.c 4)
noncomputable def de15 : SE := .mn de10 (.v 6)
noncomputable def de16 : SE := .sub de15 (.v 5)
noncomputable def de17 : SE := .mul (.c 2) (.v 24)
noncomputable def de18 : SE := .mn de17 (.v 25)
noncomputable def de19 : SE := .add (.v 22) de18
noncomputable def de20 : SE := .mul de18 (.c 3)
noncomputable def de21 : SE := .tdiv de20 (.c 2)
noncomputable def de22 : SE := .sub (.v 51) (.v 26)
noncomputable def de23 : SE := .ap 1000 (.i (.c 1) (.i de11 (.i (.c 0) .nil)))
noncomputable def de24 : SE := .ap 1000 (.i (.c 1) (.i (.v 24) (.i (.c 0) .nil)))
noncomputable def de25 : SE := .ap 1001 (.i (.c 3) (.i (.c 1) (.i de23 (.i de24 .nil))))
noncomputable def de26 : SE := .ap 1001 (.i (.c 2) (.i (.c 1) (.i (.c 4616189618054758400) (.i de25 .nil))))
noncomputable def de27 : SE := .ap 1000 (.i (.c 1) (.i (.v 40) (.i (.c 0) .nil)))
noncomputable def de28 : SE := .ap 1001 (.i (.c 2) (.i (.c 1) (.i de26 (.i de27 .nil))))
noncomputable def de29 : SE := .ap 1002 (.i (.c 1) (.i de28 .nil))
noncomputable def de30 : SE := .mn de21 (.v 6)
noncomputable def de31 : SE := .sub de30 (.v 5)
noncomputable def df0 : Fx := [((.le (.c 0) (.v 22)), true), ((.le (.v 22) (.c 1000000)), true), ((.le (.c 0) (.v 23)), true), ((.le (.v 23) (.c 1000000)), true), ((.le (.c 2) (.v 24)), true), ((.le (.v 24) (.c 1000000)), true), ((.le (.c 2) (.v 25)), true), ((.le (.v 25) (.c 1000000)), true), ((.le (.c 0) (.v 26)), true), ((.le (.v 26) (.c 1000000000000000000)), true), ((.le (.c 0) (.v 27)), true), ((.le (.v 27) (.c 1000000)), true), ((.le (.c 0) (.v 51)), true), ((.le (.v 51) (.c 1000000000000000000)), true), ((.le (.c 2) (.v 5)), true), ((.le (.v 5) (.c 1000000)), true), ((.le (.c 2) (.v 6)), true), ((.le (.v 6) (.c 1000000)), true), ((.le (.c 1000000) (.v 40)), true), ((.le (.v 40) (.c 260000000)), true)]
noncomputable def df1 : Fx := ((.le de13 de14), true) :: ((.v 2), false) :: df0
noncomputable def df2 : Fx := ((.lt (.v 24) (.v 24)), true) :: ((.le de11 de12), true) :: df1
noncomputable def df3 : Fx := ((.le (.c 0) de11), true) :: ((.le de11 de12), false) :: df1
noncomputable def df4 : Fx := ((.ap 1001 (.i (.c 3) (.i (.c 1) (.i de23 (.i de24 .nil))))), true) :: df3
noncomputable def df5 : Fx := ((.ap 1001 (.i (.c 2) (.i (.c 1) (.i (.c 4616189618054758400) (.i de25 .nil))))), true) :: df4
noncomputable def df6 : Fx := ((.ap 1001 (.i (.c 2) (.i (.c 1) (.i de26 (.i de27 .nil))))), true) :: df5
noncomputable def df7 : Fx := ((.ap 1002 (.i (.c 1) (.i de28 .nil))), true) :: df6
noncomputable def df8 : Fx := ((.lt (.v 24) de18), true) :: ((.lt de22 de29), true) :: df7
noncomputable def df9 : Fx := ((.lt (.v 24) de18), false) :: ((.lt de22 de29), true) :: df7
noncomputable def df10 : Fx := ((.le de10 (.v 5)), false) :: ((.lt (.v 24) (.v 24)), true) :: df9
noncomputable def df11 : Fx := ((.lt (.v 24) (.v 24)), true) :: ((.lt de22 de29), false) :: df7
noncomputable def df12 : Fx := ((.le de13 de14), false) :: ((.v 2), false) :: df0
noncomputable def df13 : Fx := ((.le de10 (.v 5)), false) :: ((.lt (.v 24) (.v 24)), true) :: df12
noncomputable def dx0 : Vl := .out 0 [.b (.v 1) (.v 1), .i (.v 41) (.v 41), .i (.v 42) (.v 42), .i (.v 40) (.v 40), .i (.v 43) (.v 43), .i (.v 44) (.v 44), .i (.v 3) (.v 3), .i (.v 2) (.v 2), .i (.v 4) (.v 4), .i (.v 5) (.v 5), .i (.v 6) (.v 6), .i (.v 7) (.v 7), .i (.v 8) (.v 8), .i (.v 9) (.v 9), .i (.v 10) (.v 10), .i (.v 11) (.v 11), .i (.v 22) (.v 22), .i (.v 21) (.v 21), .i (.v 23) (.v 23), .i (.v 24) (.v 24), .i (.v 25) (.v 25), .i (.v 26) (.v 26), .i (.v 27) (.v 27), .i (.v 28) (.v 28), .i (.v 29) (.v 29), .i (.v 30) (.v 30), .i (.v 31) (.v 31), .b (.v 2) (.v 2)] (((.v 2), true) :: df0)
noncomputable def dx1 : Vl := .out 1 [.i de0 de1, .b (.v 1) (.v 1), .i (.v 41) (.v 41), .i (.v 42) (.v 42), .i (.v 40) (.v 40), .i (.v 43) (.v 43), .i (.v 44) (.v 44), .i (.v 3) (.v 3), .i (.v 2) (.v 2), .i (.v 4) (.v 4), .i (.v 5) de3, .i (.v 6) (.v 6), .i (.v 7) de4, .i (.v 8) de5, .i (.v 9) (.v 9), .i (.v 10) (.v 10), .i (.v 11) (.v 11), .i (.v 22) (.v 22), .i (.v 21) (.v 21), .i de0 de6, .i (.v 24) de2, .i (.v 25) (.v 25), .i (.v 26) de7, .i (.v 27) de8, .i (.v 28) (.v 28), .i (.v 29) (.v 29), .i (.v 30) (.v 30), .i (.v 31) (.v 31), .b (.v 2) (.v 2)] (((.le de10 (.v 5)), true) :: df2)
noncomputable def dx2 : Vl := .out 1 [.i de0 de1, .b (.v 1) (.v 1), .i (.v 41) (.v 41), .i (.v 42) (.v 42), .i (.v 40) (.v 40), .i (.v 43) (.v 43), .i (.v 44) (.v 44), .i (.v 3) (.v 3), .i (.v 2) (.v 2), .i (.v 4) (.v 4), .i de15 de3, .i (.v 6) (.v 6), .i (.v 51) de4, .i (.v 3) de5, .i (.v 9) (.v 9), .i (.v 10) (.v 10), .i (.v 11) (.v 11), .i (.v 22) (.v 22), .i (.v 21) (.v 21), .i de0 de6, .i (.v 24) de2, .i (.v 25) (.v 25), .i (.v 26) de7, .i (.v 27) de8, .i (.v 28) (.v 28), .i (.v 29) (.v 29), .i (.v 30) (.v 30), .i (.v 31) (.v 31), .b (.v 2) (.v 2)] (((.lt (.c 0) de16), true) :: ((.le de10 (.v 5)), false) :: df2)
noncomputable def dx3 : Vl := .out 1 [.i de0 de1, .b (.v 1) (.v 1), .i (.v 41) (.v 41), .i (.v 42) (.v 42), .i (.v 40) (.v 40), .i (.v 43) (.v 43), .i (.v 44) (.v 44), .i (.v 3) (.v 3), .i (.v 2) (.v 2), .i (.v 4) (.v 4), .i (.v 5) de3, .i (.v 6) (.v 6), .i (.v 51) de4, .i (.v 3) de5, .i (.v 9) (.v 9), .i (.v 10) (.v 10), .i (.v 11) (.v 11), .i (.v 22) (.v 22), .i (.v 21) (.v 21), .i de0 de6, .i (.v 24) de2, .i (.v 25) (.v 25), .i (.v 26) de7, .i (.v 27) de8, .i (.v 28) (.v 28), .i (.v 29) (.v 29), .i (.v 30) (.v 30), .i (.v 31) (.v 31), .b (.v 2) (.v 2)] (((.lt (.c 0) de16), false) :: ((.le de10 (.v 5)), false) :: df2)
noncomputable def dx4 : Vl := .out 1 [.i de0 de1, .b (.v 1) (.v 1), .i (.v 41) (.v 41), .i (.v 42) (.v 42), .i (.v 40) (.v 40), .i (.v 43) (.v 43), .i (.v 44) (.v 44), .i (.v 3) (.v 3), .i (.v 2) (.v 2), .i (.v 4) (.v 4), .i (.v 5) de3, .i (.v 6) (.v 6), .i (.v 7) de4, .i (.v 8) de5, .i (.v 9) (.v 9), .i (.v 10) (.v 10), .i (.v 11) (.v 11), .i (.v 22) (.v 22), .i (.v 21) (.v 21), .i de0 de6, .i (.v 24) de2, .i (.v 25) (.v 25), .i (.v 26) de7, .i (.v 27) de8, .i (.v 28) (.v 28), .i (.v 29) (.v 29), .i (.v 30) (.v 30), .i (.v 31) (.v 31), .b (.v 2) (.v 2)] (((.lt (.v 24) (.v 24)), false) :: ((.le de11 de12), true) :: df1)
noncomputable def dx5 : Vl := .out 1 [.i de19 de1, .b (.v 1) (.v 1), .i (.v 41) (.v 41), .i (.v 42) (.v 42), .i (.v 40) (.v 40), .i (.v 43) (.v 43), .i (.v 44) (.v 44), .i (.v 3) (.v 3), .i (.v 2) (.v 2), .i (.v 4) (.v 4), .i (.v 5) de3, .i (.v 6) (.v 6), .i (.v 7) de4, .i (.v 8) de5, .i (.v 9) (.v 9), .i (.v 10) (.v 10), .i (.v 11) (.v 11), .i (.v 22) (.v 22), .i (.v 21) (.v 21), .i de19 de6, .i de18 de2, .i (.v 25) (.v 25), .i (.v 51) de7, .i (.v 22) de8, .i (.v 28) (.v 28), .i (.v 29) (.v 29), .i (.v 30) (.v 30), .i (.v 31) (.v 31), .b (.v 2) (.v 2)] (((.le de21 (.v 5)), true) :: df8)
noncomputable def dx6 : Vl := .out 1 [.i de19 de1, .b (.v 1) (.v 1), .i (.v 41) (.v 41), .i (.v 42) (.v 42), .i (.v 40) (.v 40), .i (.v 43) (.v 43), .i (.v 44) (.v 44), .i (.v 3) (.v 3), .i (.v 2) (.v 2), .i (.v 4) (.v 4), .i de30 de3, .i (.v 6) (.v 6), .i (.v 51) de4, .i (.v 3) de5, .i (.v 9) (.v 9), .i (.v 10) (.v 10), .i (.v 11) (.v 11), .i (.v 22) (.v 22), .i (.v 21) (.v 21), .i de19 de6, .i de18 de2, .i (.v 25) (.v 25), .i (.v 51) de7, .i (.v 22) de8, .i (.v 28) (.v 28), .i (.v 29) (.v 29), .i (.v 30) (.v 30), .i (.v 31) (.v 31), .b (.v 2) (.v 2)] (((.lt (.c 0) de31), true) :: ((.le de21 (.v 5)), false) :: df8)
noncomputable def dx7 : Vl := .out 1 [.i de19 de1, .b (.v 1) (.v 1), .i (.v 41) (.v 41), .i (.v 42) (.v 42), .i (.v 40) (.v 40), .i (.v 43) (.v 43), .i (.v 44) (.v 44), .i (.v 3) (.v 3), .i (.v 2) (.v 2), .i (.v 4) (.v 4), .i (.v 5) de3, .i (.v 6) (.v 6), .i (.v 51) de4, .i (.v 3) de5, .i (.v 9) (.v 9), .i (.v 10) (.v 10), .i (.v 11) (.v 11), .i (.v 22) (.v 22), .i (.v 21) (.v 21), .i de19 de6, .i de18 de2, .i (.v 25) (.v 25), .i (.v 51) de7, .i (.v 22) de8, .i (.v 28) (.v 28), .i (.v 29) (.v 29), .i (.v 30) (.v 30), .i (.v 31) (.v 31), .b (.v 2) (.v 2)] (((.lt (.c 0) de31), false) :: ((.le de21 (.v 5)), false) :: df8)
noncomputable def dx8 : Vl := .out 1 [.i de0 de1, .b (.v 1) (.v 1), .i (.v 41) (.v 41), .i (.v 42) (.v 42), .i (.v 40) (.v 40), .i (.v 43) (.v 43), .i (.v 44) (.v 44), .i (.v 3) (.v 3), .i (.v 2) (.v 2), .i (.v 4) (.v 4), .i (.v 5) de3, .i (.v 6) (.v 6), .i (.v 7) de4, .i (.v 8) de5, .i (.v 9) (.v 9), .i (.v 10) (.v 10), .i (.v 11) (.v 11), .i (.v 22) (.v 22), .i (.v 21) (.v 21), .i de0 de6, .i (.v 24) de2, .i (.v 25) (.v 25), .i (.v 51) de7, .i (.v 22) de8, .i (.v 28) (.v 28), .i (.v 29) (.v 29), .i (.v 30) (.v 30), .i (.v 31) (.v 31), .b (.v 2) (.v 2)] (((.le de10 (.v 5)), true) :: ((.lt (.v 24) (.v 24)), true) :: df9)
noncomputable def dx9 : Vl := .out 1 [.i de0 de1, .b (.v 1) (.v 1), .i (.v 41) (.v 41), .i (.v 42) (.v 42), .i (.v 40) (.v 40), .i (.v 43) (.v 43), .i (.v 44) (.v 44), .i (.v 3) (.v 3), .i (.v 2) (.v 2), .i (.v 4) (.v 4), .i de15 de3, .i (.v 6) (.v 6), .i (.v 51) de4, .i (.v 3) de5, .i (.v 9) (.v 9), .i (.v 10) (.v 10), .i (.v 11) (.v 11), .i (.v 22) (.v 22), .i (.v 21) (.v 21), .i de0 de6, .i (.v 24) de2, .i (.v 25) (.v 25), .i (.v 51) de7, .i (.v 22) de8, .i (.v 28) (.v 28), .i (.v 29) (.v 29), .i (.v 30) (.v 30), .i (.v 31) (.v 31), .b (.v 2) (.v 2)] (((.lt (.c 0) de16), true) :: df10)
noncomputable def dx10 : Vl := .out 1 [.i de0 de1, .b (.v 1) (.v 1), .i (.v 41) (.v 41), .i (.v 42) (.v 42), .i (.v 40) (.v 40), .i (.v 43) (.v 43), .i (.v 44) (.v 44), .i (.v 3) (.v 3), .i (.v 2) (.v 2), .i (.v 4) (.v 4), .i (.v 5) de3, .i (.v 6) (.v 6), .i (.v 51) de4, .i (.v 3) de5, .i (.v 9) (.v 9), .i (.v 10) (.v 10), .i (.v 11) (.v 11), .i (.v 22) (.v 22), .i (.v 21) (.v 21), .i de0 de6, .i (.v 24) de2, .i (.v 25) (.v 25), .i (.v 51) de7, .i (.v 22) de8, .i (.v 28) (.v 28), .i (.v 29) (.v 29), .i (.v 30) (.v 30), .i (.v 31) (.v 31), .b (.v 2) (.v 2)] (((.lt (.c 0) de16), false) :: df10)
noncomputable def dx11 : Vl := .out 1 [.i de0 de1, .b (.v 1) (.v 1), .i (.v 41) (.v 41), .i (.v 42) (.v 42), .i (.v 40) (.v 40), .i (.v 43) (.v 43), .i (.v 44) (.v 44), .i (.v 3) (.v 3), .i (.v 2) (.v 2), .i (.v 4) (.v 4), .i (.v 5) de3, .i (.v 6) (.v 6), .i (.v 7) de4, .i (.v 8) de5, .i (.v 9) (.v 9), .i (.v 10) (.v 10), .i (.v 11) (.v 11), .i (.v 22) (.v 22), .i (.v 21) (.v 21), .i de0 de6, .i (.v 24) de2, .i (.v 25) (.v 25), .i (.v 51) de7, .i (.v 22) de8, .i (.v 28) (.v 28), .i (.v 29) (.v 29), .i (.v 30) (.v 30), .i (.v 31) (.v 31), .b (.v 2) (.v 2)] (((.lt (.v 24) (.v 24)), false) :: df9)
noncomputable def dx12 : Vl := .out 1 [.i de0 de1, .b (.v 1) (.v 1), .i (.v 41) (.v 41), .i (.v 42) (.v 42), .i (.v 40) (.v 40), .i (.v 43) (.v 43), .i (.v 44) (.v 44), .i (.v 3) (.v 3), .i (.v 2) (.v 2), .i (.v 4) (.v 4), .i (.v 5) de3, .i (.v 6) (.v 6), .i (.v 7) de4, .i (.v 8) de5, .i (.v 9) (.v 9), .i (.v 10) (.v 10), .i (.v 11) (.v 11), .i (.v 22) (.v 22), .i (.v 21) (.v 21), .i de0 de6, .i (.v 24) de2, .i (.v 25) (.v 25), .i (.v 51) de7, .i (.v 22) de8, .i (.v 28) (.v 28), .i (.v 29) (.v 29), .i (.v 30) (.v 30), .i (.v 31) (.v 31), .b (.v 2) (.v 2)] (((.le de10 (.v 5)), true) :: df11)
noncomputable def dx13 : Vl := .out 1 [.i de0 de1, .b (.v 1) (.v 1), .i (.v 41) (.v 41), .i (.v 42) (.v 42), .i (.v 40) (.v 40), .i (.v 43) (.v 43), .i (.v 44) (.v 44), .i (.v 3) (.v 3), .i (.v 2) (.v 2), .i (.v 4) (.v 4), .i de15 de3, .i (.v 6) (.v 6), .i (.v 51) de4, .i (.v 3) de5, .i (.v 9) (.v 9), .i (.v 10) (.v 10), .i (.v 11) (.v 11), .i (.v 22) (.v 22), .i (.v 21) (.v 21), .i de0 de6, .i (.v 24) de2, .i (.v 25) (.v 25), .i (.v 51) de7, .i (.v 22) de8, .i (.v 28) (.v 28), .i (.v 29) (.v 29), .i (.v 30) (.v 30), .i (.v 31) (.v 31), .b (.v 2) (.v 2)] (((.lt (.c 0) de16), true) :: ((.le de10 (.v 5)), false) :: df11)
noncomputable def dx14 : Vl := .out 1 [.i de0 de1, .b (.v 1) (.v 1), .i (.v 41) (.v 41), .i (.v 42) (.v 42), .i (.v 40) (.v 40), .i (.v 43) (.v 43), .i (.v 44) (.v 44), .i (.v 3) (.v 3), .i (.v 2) (.v 2), .i (.v 4) (.v 4), .i (.v 5) de3, .i (.v 6) (.v 6), .i (.v 51) de4, .i (.v 3) de5, .i (.v 9) (.v 9), .i (.v 10) (.v 10), .i (.v 11) (.v 11), .i (.v 22) (.v 22), .i (.v 21) (.v 21), .i de0 de6, .i (.v 24) de2, .i (.v 25) (.v 25), .i (.v 51) de7, .i (.v 22) de8, .i (.v 28) (.v 28), .i (.v 29) (.v 29), .i (.v 30) (.v 30), .i (.v 31) (.v 31), .b (.v 2) (.v 2)] (((.lt (.c 0) de16), false) :: ((.le de10 (.v 5)), false) :: df11)
noncomputable def dx15 : Vl := .out 1 [.i de0 de1, .b (.v 1) (.v 1), .i (.v 41) (.v 41), .i (.v 42) (.v 42), .i (.v 40) (.v 40), .i (.v 43) (.v 43), .i (.v 44) (.v 44), .i (.v 3) (.v 3), .i (.v 2) (.v 2), .i (.v 4) (.v 4), .i (.v 5) de3, .i (.v 6) (.v 6), .i (.v 7) de4, .i (.v 8) de5, .i (.v 9) (.v 9), .i (.v 10) (.v 10), .i (.v 11) (.v 11), .i (.v 22) (.v 22), .i (.v 21) (.v 21), .i de0 de6, .i (.v 24) de2, .i (.v 25) (.v 25), .i (.v 51) de7, .i (.v 22) de8, .i (.v 28) (.v 28), .i (.v 29) (.v 29), .i (.v 30) (.v 30), .i (.v 31) (.v 31), .b (.v 2) (.v 2)] (((.lt (.v 24) (.v 24)), false) :: ((.lt de22 de29), false) :: df7)
noncomputable def dx16 : Vl := .dead (((.ap 1002 (.i (.c 1) (.i de28 .nil))), false) :: df6)
noncomputable def dx17 : Vl := .dead (((.ap 1001 (.i (.c 2) (.i (.c 1) (.i de26 (.i de27 .nil))))), false) :: df5)
noncomputable def dx18 : Vl := .dead (((.ap 1001 (.i (.c 2) (.i (.c 1) (.i (.c 4616189618054758400) (.i de25 .nil))))), false) :: df4)
noncomputable def dx19 : Vl := .dead (((.ap 1001 (.i (.c 3) (.i (.c 1) (.i de23 (.i de24 .nil))))), false) :: df3)
noncomputable def dx20 : Vl := .dead (((.le (.c 0) de11), false) :: ((.le de11 de12), false) :: df1)
noncomputable def dx21 : Vl := .out 1 [.i (.c 0) de1, .b (.v 1) (.v 1), .i (.v 41) (.v 41), .i (.v 42) (.v 42), .i (.v 40) (.v 40), .i (.v 43) (.v 43), .i (.v 44) (.v 44), .i (.v 3) (.v 3), .i (.v 2) (.v 2), .i (.v 4) (.v 4), .i (.v 5) de3, .i (.v 6) (.v 6), .i (.v 7) de4, .i (.v 8) de5, .i (.v 9) (.v 9), .i (.v 10) (.v 10), .i (.v 11) (.v 11), .i (.v 22) (.v 22), .i (.v 21) (.v 21), .i (.v 23) de6, .i (.v 24) de2, .i (.v 25) (.v 25), .i (.v 26) de7, .i (.v 27) de8, .i (.v 28) (.v 28), .i (.v 29) (.v 29), .i (.v 30) (.v 30), .i (.v 31) (.v 31), .b (.v 2) (.v 2)] (((.le de10 (.v 5)), true) :: ((.lt (.v 24) (.v 24)), true) :: df12)
noncomputable def dx22 : Vl := .out 1 [.i (.c 0) de1, .b (.v 1) (.v 1), .i (.v 41) (.v 41), .i (.v 42) (.v 42), .i (.v 40) (.v 40), .i (.v 43) (.v 43), .i (.v 44) (.v 44), .i (.v 3) (.v 3), .i (.v 2) (.v 2), .i (.v 4) (.v 4), .i de15 de3, .i (.v 6) (.v 6), .i (.v 51) de4, .i (.v 3) de5, .i (.v 9) (.v 9), .i (.v 10) (.v 10), .i (.v 11) (.v 11), .i (.v 22) (.v 22), .i (.v 21) (.v 21), .i (.v 23) de6, .i (.v 24) de2, .i (.v 25) (.v 25), .i (.v 26) de7, .i (.v 27) de8, .i (.v 28) (.v 28), .i (.v 29) (.v 29), .i (.v 30) (.v 30), .i (.v 31) (.v 31), .b (.v 2) (.v 2)] (((.lt (.c 0) de16), true) :: df13)
noncomputable def dx23 : Vl := .out 1 [.i (.c 0) de1, .b (.v 1) (.v 1), .i (.v 41) (.v 41), .i (.v 42) (.v 42), .i (.v 40) (.v 40), .i (.v 43) (.v 43), .i (.v 44) (.v 44), .i (.v 3) (.v 3), .i (.v 2) (.v 2), .i (.v 4) (.v 4), .i (.v 5) de3, .i (.v 6) (.v 6), .i (.v 51) de4, .i (.v 3) de5, .i (.v 9) (.v 9), .i (.v 10) (.v 10), .i (.v 11) (.v 11), .i (.v 22) (.v 22), .i (.v 21) (.v 21), .i (.v 23) de6, .i (.v 24) de2, .i (.v 25) (.v 25), .i (.v 26) de7, .i (.v 27) de8, .i (.v 28) (.v 28), .i (.v 29) (.v 29), .i (.v 30) (.v 30), .i (.v 31) (.v 31), .b (.v 2) (.v 2)] (((.lt (.c 0) de16), false) :: df13)
noncomputable def dx24 : Vl := .out 1 [.i (.c 0) de1, .b (.v 1) (.v 1), .i (.v 41) (.v 41), .i (.v 42) (.v 42), .i (.v 40) (.v 40), .i (.v 43) (.v 43), .i (.v 44) (.v 44), .i (.v 3) (.v 3), .i (.v 2) (.v 2), .i (.v 4) (.v 4), .i (.v 5) de3, .i (.v 6) (.v 6), .i (.v 7) de4, .i (.v 8) de5, .i (.v 9) (.v 9), .i (.v 10) (.v 10), .i (.v 11) (.v 11), .i (.v 22) (.v 22), .i (.v 21) (.v 21), .i (.v 23) de6, .i (.v 24) de2, .i (.v 25) (.v 25), .i (.v 26) de7, .i (.v 27) de8, .i (.v 28) (.v 28), .i (.v 29) (.v 29), .i (.v 30) (.v 30), .i (.v 31) (.v 31), .b (.v 2) (.v 2)] (((.lt (.v 24) (.v 24)), false) :: df12)
noncomputable def dls : List Vl := [dx0, dx1, dx2, dx3, dx4, dx5, dx6, dx7, dx8, dx9, dx10, dx11, dx12, dx13, dx14, dx15, dx16, dx17, dx18, dx19, dx20, dx21, dx22, dx23, dx24]
theorem drun : (run (prmM Tryd.prog) 600 (enterD (prmM Tryd.prog) ct28)).map (vOf (prmM Tryd.prog) ct28 []) = dls := by kernel_rfl
-- 25 ways; terms: de0, de1, de2, de3, de4, de5, de6, de7, de8, de9, de10, de11, de12, de13, de14, de15, de16, de17, de18, de19, de20, de21, de22, de23, de24, de25, de26, de27, de28, de29, de30, de31
theorem ct28_ok : CtOk Tryd.prog fns ct28 := by
  refine ct_of_pts (p := prmM Tryd.prog) (pts := []) (n := 600) (c0 := enterD (prmM Tryd.prog) ct28) (fun E hE => prmM_ok E hE) rfl (by intro q hq; cases hq) Tryd.func28 (by kernel_rfl) (by intro t ht; cases ht) (fun _ _ _ => True) (fun _ _ _ => 0) dls drun ?_ (by intro i t ht; simp at ht)
  intro E hE hF
  simp only [ct28, rttF, bd, List.cons_append, List.nil_append, facts_cons, df0, df1, df2, df3, df4, df5, df6, df7, df8, df9, df10, df11, df12, df13, facts_nil, le_t, d_c, d_v, and_true] at hF
  have td0 : (E.i 24).tdiv 2 = (E.i 24) / 2 := tdn (by omega)
  have td1 : (E.i 24 * 3).tdiv 4 = (E.i 24 * 3) / 4 := tdn (by omega)
  have td2 : (min (2 * E.i 24) (E.i 25) * 3).tdiv 2 = (min (2 * E.i 24) (E.i 25) * 3) / 2 := tdn (by omega)
  have td3 : (E.i 24 * 3).tdiv 2 = (E.i 24 * 3) / 2 := tdn (by omega)
  refine ⟨noFacts (by simp [ct28]), fun x hx => ?_⟩
  unfold dls at hx
  simp only [List.mem_cons, List.not_mem_nil, or_false] at hx
  rcases hx with rfl | rfl | rfl | rfl | rfl | rfl | rfl | rfl | rfl | rfl | rfl | rfl | rfl | rfl | rfl | rfl | rfl | rfl | rfl | rfl | rfl | rfl | rfl | rfl | rfl
  all_goals
    intro hf
    cases h2 : E.b 2
  all_goals
    simp only [facts_cons, df0, df1, df2, df3, df4, df5, df6, df7, df8, df9, df10, df11, df12, df13, facts_nil, and_true, true_and, d_c, d_v, d_ap, d_sli, d_slnil, d_bv, d_bap, d_sub, d_mul, d_tdiv, d_mn, le_t, le_f, lt_t, lt_f, hE, b1000, b1001, b1002, g1001, g1002, flw_def, limQ_def, limF_def, limW_def, lim4_def, h2, td0, td1, td2, td3, de9, de10, de11, de12, de13, de14, de15, de16, de17, de18, de20, de21, de22, de23, de24, de25, de26, de27, de28, de29, de30, de31, Bool.true_eq_false, Bool.false_eq_true, and_false, false_and, imn_min] at hf
    try (exfalso; exact hf)
    try (have hz2 : 1 ≤ (E.i 24) / 2 := by omega)
    try (have L := lim4_ok (rd := E.i 22 - E.i 27) (sz := E.i 24) (rtt := E.i 40) (by omega) (by omega) (by omega))
    try (obtain ⟨L1, L2, L3, L4, L5, L6⟩ := L)
    try (simp only [L1, L2, L3, L4, Bool.true_eq_false, false_and] at hf)
    try (exfalso; omega)
  all_goals
    refine ⟨?_, ?_⟩
    · simp only [ct28, altSel, d_bv, d_bc, fx, sl, zN, h2, Bool.false_eq_true, if_false, if_true]
      repeat' split
      all_goals rfl
    · simp only [List.forall_mem_cons, List.not_mem_nil, false_imp_iff, implies_true, and_true, true_and, Eqn.ok]
      and_intros
      all_goals (simp only [d_c, d_v, d_ap, d_sli, d_slnil, d_add, d_mul, d_tdiv, d_mn, hE, f1, f2, f3, f4, f5, f6, f7, f8, td2, de0, de1, de2, de3, de4, de5, de6, de7, de8, de17, de18, de19, de20, de21, de30, imn_min, upZ, upT, upF, upW, upO, enZ, enT, enF, enE, duE, grE, fastE]; omega)
noncomputable def ee0 : SE := .add (.v 3) (.v 5)
noncomputable def ee1 : SE := .ap 5 (.i (.v 51) (.i (.v 40) (.i (.v 3) (.i (.v 4) (.i (.v 5) (.i (.v 6) (.i (.v 7) (.i (.v 8) .nil))))))))
noncomputable def ee2 : SE := .ap 4 (.i (.v 51) (.i (.v 40) (.i (.v 3) (.i (.v 4) (.i (.v 5) (.i (.v 6) (.i (.v 7) (.i (.v 8) .nil))))))))
noncomputable def ee3 : SE := .ap 1 (.i (.v 51) (.i (.v 40) (.i (.v 3) (.i (.v 4) (.i (.v 5) (.i (.v 6) (.i (.v 7) (.i (.v 8) .nil))))))))
noncomputable def ee4 : SE := .ap 2 (.i (.v 51) (.i (.v 3) (.i (.v 4) (.i (.v 5) (.i (.v 7) (.i (.v 8) .nil))))))
noncomputable def ee5 : SE := .ap 3 (.i (.v 3) (.i (.v 4) (.i (.v 5) (.i (.v 8) .nil))))
noncomputable def ee6 : SE := .sub (.v 3) (.v 8)
noncomputable def ee7 : SE := .tdiv (.v 5) (.c 2)
noncomputable def ee8 : SE := .sub (.v 4) (.v 3)
noncomputable def ee9 : SE := .mul (.v 5) (.c 3)
noncomputable def ee10 : SE := .tdiv ee9 (.c 4)
noncomputable def ee11 : SE := .mul (.c 2) (.v 5)
noncomputable def ee12 : SE := .mn ee11 (.v 6)
noncomputable def ee13 : SE := .add (.v 3) ee12
noncomputable def ee14 : SE := .sub (.v 51) (.v 7)
noncomputable def ee15 : SE := .ap 1000 (.i (.c 1) (.i ee6 (.i (.c 0) .nil)))
noncomputable def ee16 : SE := .ap 1000 (.i (.c 1) (.i (.v 5) (.i (.c 0) .nil)))
noncomputable def ee17 : SE := .ap 1001 (.i (.c 3) (.i (.c 1) (.i ee15 (.i ee16 .nil))))
noncomputable def ee18 : SE := .ap 1001 (.i (.c 2) (.i (.c 1) (.i (.c 4616189618054758400) (.i ee17 .nil))))
noncomputable def ee19 : SE := .ap 1000 (.i (.c 1) (.i (.v 40) (.i (.c 0) .nil)))
noncomputable def ee20 : SE := .ap 1001 (.i (.c 2) (.i (.c 1) (.i ee18 (.i ee19 .nil))))
noncomputable def ee21 : SE := .ap 1002 (.i (.c 1) (.i ee20 .nil))
noncomputable def ef0 : Fx := [((.le (.c 0) (.v 3)), true), ((.le (.v 3) (.c 1000000)), true), ((.le (.c 0) (.v 4)), true), ((.le (.v 4) (.c 1000000)), true), ((.le (.c 2) (.v 5)), true), ((.le (.v 5) (.c 1000000)), true), ((.le (.c 2) (.v 6)), true), ((.le (.v 6) (.c 1000000)), true), ((.le (.c 0) (.v 7)), true), ((.le (.v 7) (.c 1000000000000000000)), true), ((.le (.c 0) (.v 8)), true), ((.le (.v 8) (.c 1000000)), true), ((.le (.c 0) (.v 51)), true), ((.le (.v 51) (.c 1000000000000000000)), true), ((.le (.c 1000000) (.v 40)), true), ((.le (.v 40) (.c 260000000)), true)]
noncomputable def ef1 : Fx := ((.le ee6 ee7), false) :: ((.le ee8 ee10), true) :: ef0
noncomputable def ef2 : Fx := ((.ap 1001 (.i (.c 3) (.i (.c 1) (.i ee15 (.i ee16 .nil))))), true) :: ((.le (.c 0) ee6), true) :: ef1
noncomputable def ef3 : Fx := ((.ap 1001 (.i (.c 2) (.i (.c 1) (.i (.c 4616189618054758400) (.i ee17 .nil))))), true) :: ef2
noncomputable def ef4 : Fx := ((.ap 1001 (.i (.c 2) (.i (.c 1) (.i ee18 (.i ee19 .nil))))), true) :: ef3
noncomputable def ef5 : Fx := ((.ap 1002 (.i (.c 1) (.i ee20 .nil))), true) :: ef4
noncomputable def ex0 : Vl := .out 0 [.i ee0 ee1, .b (.v 1) (.v 1), .i (.v 41) (.v 41), .i (.v 42) (.v 42), .i (.v 40) (.v 40), .i (.v 43) (.v 43), .i (.v 44) (.v 44), .i (.v 3) (.v 3), .i (.v 2) (.v 2), .i ee0 ee2, .i (.v 5) ee3, .i (.v 6) (.v 6), .i (.v 7) ee4, .i (.v 8) ee5, .i (.v 9) (.v 9), .i (.v 10) (.v 10), .i (.v 11) (.v 11)] (((.le ee6 ee7), true) :: ((.le ee8 ee10), true) :: ef0)
noncomputable def ex1 : Vl := .out 0 [.i ee13 ee1, .b (.v 1) (.v 1), .i (.v 41) (.v 41), .i (.v 42) (.v 42), .i (.v 40) (.v 40), .i (.v 43) (.v 43), .i (.v 44) (.v 44), .i (.v 3) (.v 3), .i (.v 2) (.v 2), .i ee13 ee2, .i ee12 ee3, .i (.v 6) (.v 6), .i (.v 51) ee4, .i (.v 3) ee5, .i (.v 9) (.v 9), .i (.v 10) (.v 10), .i (.v 11) (.v 11)] (((.lt (.v 5) ee12), true) :: ((.lt ee14 ee21), true) :: ef5)
noncomputable def ex2 : Vl := .out 0 [.i ee0 ee1, .b (.v 1) (.v 1), .i (.v 41) (.v 41), .i (.v 42) (.v 42), .i (.v 40) (.v 40), .i (.v 43) (.v 43), .i (.v 44) (.v 44), .i (.v 3) (.v 3), .i (.v 2) (.v 2), .i ee0 ee2, .i (.v 5) ee3, .i (.v 6) (.v 6), .i (.v 51) ee4, .i (.v 3) ee5, .i (.v 9) (.v 9), .i (.v 10) (.v 10), .i (.v 11) (.v 11)] (((.lt (.v 5) ee12), false) :: ((.lt ee14 ee21), true) :: ef5)
noncomputable def ex3 : Vl := .out 0 [.i ee0 ee1, .b (.v 1) (.v 1), .i (.v 41) (.v 41), .i (.v 42) (.v 42), .i (.v 40) (.v 40), .i (.v 43) (.v 43), .i (.v 44) (.v 44), .i (.v 3) (.v 3), .i (.v 2) (.v 2), .i ee0 ee2, .i (.v 5) ee3, .i (.v 6) (.v 6), .i (.v 51) ee4, .i (.v 3) ee5, .i (.v 9) (.v 9), .i (.v 10) (.v 10), .i (.v 11) (.v 11)] (((.lt ee14 ee21), false) :: ef5)
noncomputable def ex4 : Vl := .dead (((.ap 1002 (.i (.c 1) (.i ee20 .nil))), false) :: ef4)
noncomputable def ex5 : Vl := .dead (((.ap 1001 (.i (.c 2) (.i (.c 1) (.i ee18 (.i ee19 .nil))))), false) :: ef3)
noncomputable def ex6 : Vl := .dead (((.ap 1001 (.i (.c 2) (.i (.c 1) (.i (.c 4616189618054758400) (.i ee17 .nil))))), false) :: ef2)
noncomputable def ex7 : Vl := .dead (((.ap 1001 (.i (.c 3) (.i (.c 1) (.i ee15 (.i ee16 .nil))))), false) :: ((.le (.c 0) ee6), true) :: ef1)
noncomputable def ex8 : Vl := .dead (((.le (.c 0) ee6), false) :: ef1)
noncomputable def ex9 : Vl := .out 0 [.i (.c 0) ee1, .b (.v 1) (.v 1), .i (.v 41) (.v 41), .i (.v 42) (.v 42), .i (.v 40) (.v 40), .i (.v 43) (.v 43), .i (.v 44) (.v 44), .i (.v 3) (.v 3), .i (.v 2) (.v 2), .i (.v 4) ee2, .i (.v 5) ee3, .i (.v 6) (.v 6), .i (.v 7) ee4, .i (.v 8) ee5, .i (.v 9) (.v 9), .i (.v 10) (.v 10), .i (.v 11) (.v 11)] (((.le ee8 ee10), false) :: ef0)
noncomputable def els : List Vl := [ex0, ex1, ex2, ex3, ex4, ex5, ex6, ex7, ex8, ex9]
theorem erun : (run (prmM Tryd.prog) 600 (enterD (prmM Tryd.prog) ct29)).map (vOf (prmM Tryd.prog) ct29 []) = els := by kernel_rfl
-- 10 ways; terms: ee0, ee1, ee2, ee3, ee4, ee5, ee6, ee7, ee8, ee9, ee10, ee11, ee12, ee13, ee14, ee15, ee16, ee17, ee18, ee19, ee20, ee21
theorem ct29_ok : CtOk Tryd.prog fns ct29 := by
  refine ct_of_pts (p := prmM Tryd.prog) (pts := []) (n := 600) (c0 := enterD (prmM Tryd.prog) ct29) (fun E hE => prmM_ok E hE) rfl (by intro q hq; cases hq) Tryd.func29 (by kernel_rfl) (by intro t ht; cases ht) (fun _ _ _ => True) (fun _ _ _ => 0) els erun ?_ (by intro i t ht; simp at ht)
  intro E hE hF
  simp only [ct29, rttF, bd, List.cons_append, List.nil_append, facts_cons, df0, df1, df2, df3, df4, df5, df6, df7, df8, df9, df10, df11, df12, df13, ef0, ef1, ef2, ef3, ef4, ef5, facts_nil, le_t, d_c, d_v, and_true] at hF
  have td0 : (E.i 5).tdiv 2 = (E.i 5) / 2 := tdn (by omega)
  have td1 : (E.i 5 * 3).tdiv 4 = (E.i 5 * 3) / 4 := tdn (by omega)
  refine ⟨noFacts (by simp [ct29]), fun x hx => ?_⟩
  unfold els at hx
  simp only [List.mem_cons, List.not_mem_nil, or_false] at hx
  rcases hx with rfl | rfl | rfl | rfl | rfl | rfl | rfl | rfl | rfl | rfl
  all_goals
    intro hf
    simp only [facts_cons, df0, df1, df2, df3, df4, df5, df6, df7, df8, df9, df10, df11, df12, df13, ef0, ef1, ef2, ef3, ef4, ef5, facts_nil, and_true, d_c, d_v, d_ap, d_sli, d_slnil, d_bap, d_sub, d_mul, d_tdiv, d_mn, le_t, le_f, lt_t, lt_f, hE, b1000, b1001, b1002, g1001, g1002, flw_def, limQ_def, limF_def, limW_def, lim4_def, td0, td1, ee6, ee7, ee8, ee9, ee10, ee11, ee12, ee14, ee15, ee16, ee17, ee18, ee19, ee20, ee21, imn_min] at hf
    try (exfalso; exact hf)
    try (have hz2 : 1 ≤ (E.i 5) / 2 := by omega)
    try (have L := lim4_ok (rd := E.i 3 - E.i 8) (sz := E.i 5) (rtt := E.i 40) (by omega) (by omega) (by omega))
    try (obtain ⟨L1, L2, L3, L4, L5, L6⟩ := L)
    try (simp only [L1, L2, L3, L4, Bool.true_eq_false, false_and] at hf)
    try (exfalso; omega)
  all_goals
    refine ⟨?_, ?_⟩
    · simp only [ct29, altSel, d_bc, fx, sl, if_true]
      repeat' split
      all_goals rfl
    · simp only [List.forall_mem_cons, List.not_mem_nil, false_imp_iff, implies_true, and_true, true_and, Eqn.ok]
      and_intros
      all_goals (simp only [d_c, d_v, d_ap, d_sli, d_slnil, d_add, d_mul, d_mn, hE, f1, f2, f3, f4, f5, ee0, ee1, ee2, ee3, ee4, ee5, ee11, ee12, ee13, imn_min, upZ, upT, upF, upW, upO, duE, grE, fastE]; omega)
end Go.Proofs.YtpjifimjoinnnaaDoor
