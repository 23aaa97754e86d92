/- The history's other functions keep their contracts. -/
import Derived.Test.YtgianhjmjiiadaaQmP
import Derived.KernelRfl
set_option autoImplicit true
set_option relaxedAutoImplicit true
set_option linter.unusedVariables false
set_option linter.unusedSimpArgs false
set_option maxRecDepth 100000
set_option maxHeartbeats 4000000
namespace Go.Proofs.Ytgianhjmjiiadaa
open Go Go.Sy Go.RowKit
noncomputable def h39nae0 : SE := .sub (.v 0) (.c 1)
noncomputable def h39nax0 : Vl := .out 0 [.i (.v 31) (.v 31), .i (.v 32) (.v 32), .i (.v 33) (.v 33), .i (.v 6) (.v 6), .b (.v 0) (.v 0), .i (.v 34) (.v 34), .i (.v 35) (.v 35), .i (.v 36) (.v 36), .b (.v 1) (.v 1), .i (.v 37) (.v 37), .i (.v 38) (.v 38), .i (.v 39) (.v 39), .a (.v 0) (.v 0) (.v 0) 2, .i (.v 0) (.v 0)] [((.lt (.v 1) (.v 6)), true), ((.le (.c 0) (.v 0)), true), ((.le (.v 0) (.c 60)), true), ((.le (.c 0) (.v 1)), true), ((.le (.v 1) (.c 400)), true), ((.ap 1 (.a (.v 0) (.i (.v 0) .nil))), true)]
noncomputable def h39nax1 : Vl := .go 0 [(20, h39nae0)] [] [] [((.lt (.v 1) (.v 6)), false), ((.le (.c 0) (.v 0)), true), ((.le (.v 0) (.c 60)), true), ((.le (.c 0) (.v 1)), true), ((.le (.v 1) (.c 400)), true), ((.ap 1 (.a (.v 0) (.i (.v 0) .nil))), true)] (.code (.loop (loopB (prm39 Try.prog).P 39 4))) (loopK (prm39 Try.prog).P 39 4)
noncomputable def h39nals : List Vl := [h39nax0, h39nax1]
noncomputable def h39np0e0 : SE := .mul (.v 20) (.c 2)
noncomputable def h39np0e1 : SE := .add h39np0e0 (.c 1)
noncomputable def h39np0e2 : SE := .rd (.v 0) h39np0e1
noncomputable def h39np0e3 : SE := .rd (.v 0) h39np0e0
noncomputable def h39np0e4 : SE := .sub (.v 20) (.c 1)
noncomputable def h39np0x0 : Vl := .out 1 [.b (.c false) (.ap 6 (.a (.v 0) (.i (.v 0) (.i (.v 1) .nil)))), .i (.v 31) (.v 31), .i (.v 32) (.v 32), .i (.v 33) (.v 33), .i (.v 6) (.v 6), .b (.v 0) (.v 0), .i (.v 34) (.v 34), .i (.v 35) (.v 35), .i (.v 36) (.v 36), .b (.v 1) (.v 1), .i (.v 37) (.v 37), .i (.v 38) (.v 38), .i (.v 39) (.v 39), .a (.v 0) (.v 0) (.v 0) 2, .i (.v 0) (.v 0)] [((.lt h39np0e2 (.v 1)), true), ((.le (.c 0) (.v 20)), true), ((.le (.c 0) (.v 0)), true), ((.le (.v 0) (.c 60)), true), ((.le (.c 0) (.v 1)), true), ((.le (.v 1) (.c 400)), true), ((.ap 1 (.a (.v 0) (.i (.v 0) .nil))), true), ((.le (.c (-1)) (.v 20)), true), ((.le (.v 20) (.c 59)), true), ((.lt (.v 20) (.v 0)), true), ((.lt (.v 1) (.v 6)), false)]
noncomputable def h39np0x1 : Vl := .out 1 [.b (.c true) (.ap 6 (.a (.v 0) (.i (.v 0) (.i (.v 1) .nil)))), .i (.v 31) (.v 31), .i (.v 32) (.v 32), .i (.v 33) (.v 33), .i (.v 6) (.v 6), .b (.v 0) (.v 0), .i (.v 34) (.v 34), .i (.v 35) (.v 35), .i (.v 36) (.v 36), .b (.v 1) (.v 1), .i (.v 37) (.v 37), .i (.v 38) (.v 38), .i (.v 39) (.v 39), .a (.v 0) (.v 0) (.v 0) 2, .i (.v 0) (.v 0)] [((.le h39np0e3 (.v 1)), true), ((.le (.v 1) h39np0e2), true), ((.lt h39np0e2 (.v 1)), false), ((.le (.c 0) (.v 20)), true), ((.le (.c 0) (.v 0)), true), ((.le (.v 0) (.c 60)), true), ((.le (.c 0) (.v 1)), true), ((.le (.v 1) (.c 400)), true), ((.ap 1 (.a (.v 0) (.i (.v 0) .nil))), true), ((.le (.c (-1)) (.v 20)), true), ((.le (.v 20) (.c 59)), true), ((.lt (.v 20) (.v 0)), true), ((.lt (.v 1) (.v 6)), false)]
noncomputable def h39np0x2 : Vl := .go 0 [(20, h39np0e4)] [] [] [((.le h39np0e3 (.v 1)), false), ((.le (.v 1) h39np0e2), true), ((.lt h39np0e2 (.v 1)), false), ((.le (.c 0) (.v 20)), true), ((.le (.c 0) (.v 0)), true), ((.le (.v 0) (.c 60)), true), ((.le (.c 0) (.v 1)), true), ((.le (.v 1) (.c 400)), true), ((.ap 1 (.a (.v 0) (.i (.v 0) .nil))), true), ((.le (.c (-1)) (.v 20)), true), ((.le (.v 20) (.c 59)), true), ((.lt (.v 20) (.v 0)), true), ((.lt (.v 1) (.v 6)), false)] (.exit .normal) (.loop (loopB (prm39 Try.prog).P 39 4) :: loopK (prm39 Try.prog).P 39 4)
noncomputable def h39np0x3 : Vl := .go 0 [(20, h39np0e4)] [] [] [((.le (.v 1) h39np0e2), false), ((.lt h39np0e2 (.v 1)), false), ((.le (.c 0) (.v 20)), true), ((.le (.c 0) (.v 0)), true), ((.le (.v 0) (.c 60)), true), ((.le (.c 0) (.v 1)), true), ((.le (.v 1) (.c 400)), true), ((.ap 1 (.a (.v 0) (.i (.v 0) .nil))), true), ((.le (.c (-1)) (.v 20)), true), ((.le (.v 20) (.c 59)), true), ((.lt (.v 20) (.v 0)), true), ((.lt (.v 1) (.v 6)), false)] (.exit .normal) (.loop (loopB (prm39 Try.prog).P 39 4) :: loopK (prm39 Try.prog).P 39 4)
noncomputable def h39np0x4 : Vl := .out 1 [.b (.c false) (.ap 6 (.a (.v 0) (.i (.v 0) (.i (.v 1) .nil)))), .i (.v 31) (.v 31), .i (.v 32) (.v 32), .i (.v 33) (.v 33), .i (.v 6) (.v 6), .b (.v 0) (.v 0), .i (.v 34) (.v 34), .i (.v 35) (.v 35), .i (.v 36) (.v 36), .b (.v 1) (.v 1), .i (.v 37) (.v 37), .i (.v 38) (.v 38), .i (.v 39) (.v 39), .a (.v 0) (.v 0) (.v 0) 2, .i (.v 0) (.v 0)] [((.le (.c 0) (.v 20)), false), ((.le (.c 0) (.v 0)), true), ((.le (.v 0) (.c 60)), true), ((.le (.c 0) (.v 1)), true), ((.le (.v 1) (.c 400)), true), ((.ap 1 (.a (.v 0) (.i (.v 0) .nil))), true), ((.le (.c (-1)) (.v 20)), true), ((.le (.v 20) (.c 59)), true), ((.lt (.v 20) (.v 0)), true), ((.lt (.v 1) (.v 6)), false)]
noncomputable def h39np0ls : List Vl := [h39np0x0, h39np0x1, h39np0x2, h39np0x3, h39np0x4]
theorem h39np0run : (run (prm39 Try.prog) 900 (ptD (pts39 Try.prog laN an2) 0 39)).map (vOf (prm39 Try.prog) (ct39 laN an2) (pts39 Try.prog laN an2)) = h39np0ls := by kernel_rfl
noncomputable def h39tae0 : SE := .sub (.v 0) (.c 1)
noncomputable def h39tax0 : Vl := .out 0 [.i (.v 31) (.v 31), .i (.v 32) (.v 32), .i (.v 33) (.v 33), .i (.v 6) (.v 6), .b (.v 0) (.v 0), .i (.v 34) (.v 34), .i (.v 35) (.v 35), .i (.v 36) (.v 36), .b (.v 1) (.v 1), .i (.v 37) (.v 37), .i (.v 38) (.v 38), .i (.v 39) (.v 39), .a (.v 0) (.v 0) (.v 0) 2, .i (.v 0) (.v 0)] [((.lt (.v 1) (.v 6)), true), ((.le (.c 0) (.v 0)), true), ((.le (.v 0) (.c 60)), true), ((.le (.c 0) (.v 1)), true), ((.le (.v 1) (.c 400)), true), ((.ap 1 (.a (.v 0) (.i (.v 0) .nil))), true)]
noncomputable def h39tax1 : Vl := .go 0 [(20, h39tae0)] [] [] [((.lt (.v 1) (.v 6)), false), ((.le (.c 0) (.v 0)), true), ((.le (.v 0) (.c 60)), true), ((.le (.c 0) (.v 1)), true), ((.le (.v 1) (.c 400)), true), ((.ap 1 (.a (.v 0) (.i (.v 0) .nil))), true)] (.code (.loop (loopB (prm39 Try.prog).P 39 4))) (loopK (prm39 Try.prog).P 39 4)
noncomputable def h39tals : List Vl := [h39tax0, h39tax1]
noncomputable def h39tp0e0 : SE := .mul (.v 20) (.c 2)
noncomputable def h39tp0e1 : SE := .add h39tp0e0 (.c 1)
noncomputable def h39tp0e2 : SE := .rd (.v 0) h39tp0e1
noncomputable def h39tp0e3 : SE := .rd (.v 0) h39tp0e0
noncomputable def h39tp0e4 : SE := .sub (.v 20) (.c 1)
noncomputable def h39tp0x0 : Vl := .out 1 [.b (.c false) (.ap 6 (.a (.v 0) (.i (.v 0) (.i (.v 1) .nil)))), .i (.v 31) (.v 31), .i (.v 32) (.v 32), .i (.v 33) (.v 33), .i (.v 6) (.v 6), .b (.v 0) (.v 0), .i (.v 34) (.v 34), .i (.v 35) (.v 35), .i (.v 36) (.v 36), .b (.v 1) (.v 1), .i (.v 37) (.v 37), .i (.v 38) (.v 38), .i (.v 39) (.v 39), .a (.v 0) (.v 0) (.v 0) 2, .i (.v 0) (.v 0)] [((.lt h39tp0e2 (.v 1)), true), ((.le (.c 0) (.v 20)), true), ((.le (.c 0) (.v 0)), true), ((.le (.v 0) (.c 60)), true), ((.le (.c 0) (.v 1)), true), ((.le (.v 1) (.c 400)), true), ((.ap 1 (.a (.v 0) (.i (.v 0) .nil))), true), ((.le (.c (-1)) (.v 20)), true), ((.le (.v 20) (.c 59)), true), ((.lt (.v 20) (.v 0)), true), ((.lt (.v 1) (.v 6)), false)]
noncomputable def h39tp0x1 : Vl := .out 1 [.b (.c true) (.ap 6 (.a (.v 0) (.i (.v 0) (.i (.v 1) .nil)))), .i (.v 31) (.v 31), .i (.v 32) (.v 32), .i (.v 33) (.v 33), .i (.v 6) (.v 6), .b (.v 0) (.v 0), .i (.v 34) (.v 34), .i (.v 35) (.v 35), .i (.v 36) (.v 36), .b (.v 1) (.v 1), .i (.v 37) (.v 37), .i (.v 38) (.v 38), .i (.v 39) (.v 39), .a (.v 0) (.v 0) (.v 0) 2, .i (.v 0) (.v 0)] [((.le h39tp0e3 (.v 1)), true), ((.le (.v 1) h39tp0e2), true), ((.lt h39tp0e2 (.v 1)), false), ((.le (.c 0) (.v 20)), true), ((.le (.c 0) (.v 0)), true), ((.le (.v 0) (.c 60)), true), ((.le (.c 0) (.v 1)), true), ((.le (.v 1) (.c 400)), true), ((.ap 1 (.a (.v 0) (.i (.v 0) .nil))), true), ((.le (.c (-1)) (.v 20)), true), ((.le (.v 20) (.c 59)), true), ((.lt (.v 20) (.v 0)), true), ((.lt (.v 1) (.v 6)), false)]
noncomputable def h39tp0x2 : Vl := .go 0 [(20, h39tp0e4)] [] [] [((.le h39tp0e3 (.v 1)), false), ((.le (.v 1) h39tp0e2), true), ((.lt h39tp0e2 (.v 1)), false), ((.le (.c 0) (.v 20)), true), ((.le (.c 0) (.v 0)), true), ((.le (.v 0) (.c 60)), true), ((.le (.c 0) (.v 1)), true), ((.le (.v 1) (.c 400)), true), ((.ap 1 (.a (.v 0) (.i (.v 0) .nil))), true), ((.le (.c (-1)) (.v 20)), true), ((.le (.v 20) (.c 59)), true), ((.lt (.v 20) (.v 0)), true), ((.lt (.v 1) (.v 6)), false)] (.exit .normal) (.loop (loopB (prm39 Try.prog).P 39 4) :: loopK (prm39 Try.prog).P 39 4)
noncomputable def h39tp0x3 : Vl := .go 0 [(20, h39tp0e4)] [] [] [((.le (.v 1) h39tp0e2), false), ((.lt h39tp0e2 (.v 1)), false), ((.le (.c 0) (.v 20)), true), ((.le (.c 0) (.v 0)), true), ((.le (.v 0) (.c 60)), true), ((.le (.c 0) (.v 1)), true), ((.le (.v 1) (.c 400)), true), ((.ap 1 (.a (.v 0) (.i (.v 0) .nil))), true), ((.le (.c (-1)) (.v 20)), true), ((.le (.v 20) (.c 59)), true), ((.lt (.v 20) (.v 0)), true), ((.lt (.v 1) (.v 6)), false)] (.exit .normal) (.loop (loopB (prm39 Try.prog).P 39 4) :: loopK (prm39 Try.prog).P 39 4)
noncomputable def h39tp0x4 : Vl := .out 1 [.b (.c false) (.ap 6 (.a (.v 0) (.i (.v 0) (.i (.v 1) .nil)))), .i (.v 31) (.v 31), .i (.v 32) (.v 32), .i (.v 33) (.v 33), .i (.v 6) (.v 6), .b (.v 0) (.v 0), .i (.v 34) (.v 34), .i (.v 35) (.v 35), .i (.v 36) (.v 36), .b (.v 1) (.v 1), .i (.v 37) (.v 37), .i (.v 38) (.v 38), .i (.v 39) (.v 39), .a (.v 0) (.v 0) (.v 0) 2, .i (.v 0) (.v 0)] [((.le (.c 0) (.v 20)), false), ((.le (.c 0) (.v 0)), true), ((.le (.v 0) (.c 60)), true), ((.le (.c 0) (.v 1)), true), ((.le (.v 1) (.c 400)), true), ((.ap 1 (.a (.v 0) (.i (.v 0) .nil))), true), ((.le (.c (-1)) (.v 20)), true), ((.le (.v 20) (.c 59)), true), ((.lt (.v 20) (.v 0)), true), ((.lt (.v 1) (.v 6)), false)]
noncomputable def h39tp0ls : List Vl := [h39tp0x0, h39tp0x1, h39tp0x2, h39tp0x3, h39tp0x4]
theorem h39tp0run : (run (prm39 Try.prog) 900 (ptD (pts39 Try.prog laT an3) 0 39)).map (vOf (prm39 Try.prog) (ct39 laT an3) (pts39 Try.prog laT an3)) = h39tp0ls := by kernel_rfl
noncomputable def h40nae0 : AE := .ap 3 (.a (.v 0) (.i (.v 0) (.i (.v 1) .nil)))
noncomputable def h40nae1 : SE := .ap 3 (.a (.v 0) (.i (.v 0) (.i (.v 1) .nil)))
noncomputable def h40nae2 : SE := .sub h40nae1 (.c 64)
noncomputable def h40nae3 : SE := .wrap .i64 h40nae2
noncomputable def h40nae4 : AE := .ap 4 (.a h40nae0 (.i (.c 0) (.i h40nae3 .nil)))
noncomputable def h40nae5 : SE := .sub h40nae1 h40nae3
noncomputable def h40nae6 : SE := .add (.v 0) (.c 1)
noncomputable def h40nax0 : Vl := .out 0 [.b (.ap 3 (.a (.v 0) (.i (.v 0) (.i (.v 1) .nil)))) (.c true), .i (.v 31) (.v 31), .i (.v 32) (.v 32), .i (.v 33) (.v 33), .i (.v 6) (.v 6), .b (.v 0) (.v 0), .i (.v 34) (.v 34), .i (.v 35) (.v 35), .i (.v 36) (.v 36), .b (.v 1) (.v 1), .i (.v 37) (.v 37), .i (.v 38) (.v 38), .i (.v 39) (.v 39), .a h40nae4 h40nae0 h40nae1 2, .i h40nae5 h40nae1] [((.le h40nae3 h40nae1), true), ((.le h40nae1 (.c 1000)), true), ((.lt (.c 64) h40nae1), true), ((.le (.c 1) h40nae1), true), ((.le h40nae1 h40nae6), true), ((.ap 1 (.a h40nae0 (.i h40nae1 .nil))), true), ((.le (.c 0) (.v 0)), true), ((.le (.v 0) (.c 60)), true), ((.le (.c 0) (.v 1)), true), ((.le (.v 1) (.c 400)), true), ((.ap 1 (.a (.v 0) (.i (.v 0) .nil))), true), ((.lt (.v 1) (.v 6)), false), ((.ap 6 (.a (.v 0) (.i (.v 0) (.i (.v 1) .nil)))), false)]
noncomputable def h40nax1 : Vl := .dead [((.le h40nae3 h40nae1), false), ((.le h40nae1 (.c 1000)), true), ((.lt (.c 64) h40nae1), true), ((.le (.c 1) h40nae1), true), ((.le h40nae1 h40nae6), true), ((.ap 1 (.a h40nae0 (.i h40nae1 .nil))), true), ((.le (.c 0) (.v 0)), true), ((.le (.v 0) (.c 60)), true), ((.le (.c 0) (.v 1)), true), ((.le (.v 1) (.c 400)), true), ((.ap 1 (.a (.v 0) (.i (.v 0) .nil))), true), ((.lt (.v 1) (.v 6)), false), ((.ap 6 (.a (.v 0) (.i (.v 0) (.i (.v 1) .nil)))), false)]
noncomputable def h40nax2 : Vl := .dead [((.le h40nae1 (.c 1000)), false), ((.lt (.c 64) h40nae1), true), ((.le (.c 1) h40nae1), true), ((.le h40nae1 h40nae6), true), ((.ap 1 (.a h40nae0 (.i h40nae1 .nil))), true), ((.le (.c 0) (.v 0)), true), ((.le (.v 0) (.c 60)), true), ((.le (.c 0) (.v 1)), true), ((.le (.v 1) (.c 400)), true), ((.ap 1 (.a (.v 0) (.i (.v 0) .nil))), true), ((.lt (.v 1) (.v 6)), false), ((.ap 6 (.a (.v 0) (.i (.v 0) (.i (.v 1) .nil)))), false)]
noncomputable def h40nax3 : Vl := .out 0 [.b (.ap 3 (.a (.v 0) (.i (.v 0) (.i (.v 1) .nil)))) (.c true), .i (.v 31) (.v 31), .i (.v 32) (.v 32), .i (.v 33) (.v 33), .i (.v 6) (.v 6), .b (.v 0) (.v 0), .i (.v 34) (.v 34), .i (.v 35) (.v 35), .i (.v 36) (.v 36), .b (.v 1) (.v 1), .i (.v 37) (.v 37), .i (.v 38) (.v 38), .i (.v 39) (.v 39), .a h40nae0 h40nae0 h40nae1 2, .i h40nae1 h40nae1] [((.lt (.c 64) h40nae1), false), ((.le (.c 1) h40nae1), true), ((.le h40nae1 h40nae6), true), ((.ap 1 (.a h40nae0 (.i h40nae1 .nil))), true), ((.le (.c 0) (.v 0)), true), ((.le (.v 0) (.c 60)), true), ((.le (.c 0) (.v 1)), true), ((.le (.v 1) (.c 400)), true), ((.ap 1 (.a (.v 0) (.i (.v 0) .nil))), true), ((.lt (.v 1) (.v 6)), false), ((.ap 6 (.a (.v 0) (.i (.v 0) (.i (.v 1) .nil)))), false)]
noncomputable def h40nals : List Vl := [h40nax0, h40nax1, h40nax2, h40nax3]
noncomputable def h40tae0 : AE := .ap 3 (.a (.v 0) (.i (.v 0) (.i (.v 1) .nil)))
noncomputable def h40tae1 : SE := .ap 3 (.a (.v 0) (.i (.v 0) (.i (.v 1) .nil)))
noncomputable def h40tae2 : SE := .sub h40tae1 (.c 64)
noncomputable def h40tae3 : SE := .wrap .i64 h40tae2
noncomputable def h40tae4 : AE := .ap 4 (.a h40tae0 (.i (.c 0) (.i h40tae3 .nil)))
noncomputable def h40tae5 : SE := .sub h40tae1 h40tae3
noncomputable def h40tae6 : SE := .add (.v 0) (.c 1)
noncomputable def h40tax0 : Vl := .out 0 [.b (.ap 3 (.a (.v 0) (.i (.v 0) (.i (.v 1) .nil)))) (.c true), .i (.v 31) (.v 31), .i (.v 32) (.v 32), .i (.v 33) (.v 33), .i (.v 6) (.v 6), .b (.v 0) (.v 0), .i (.v 34) (.v 34), .i (.v 35) (.v 35), .i (.v 36) (.v 36), .b (.v 1) (.v 1), .i (.v 37) (.v 37), .i (.v 38) (.v 38), .i (.v 39) (.v 39), .a h40tae4 h40tae0 h40tae1 2, .i h40tae5 h40tae1] [((.le h40tae3 h40tae1), true), ((.le h40tae1 (.c 1000)), true), ((.lt (.c 64) h40tae1), true), ((.le (.c 1) h40tae1), true), ((.le h40tae1 h40tae6), true), ((.ap 1 (.a h40tae0 (.i h40tae1 .nil))), true), ((.le (.c 0) (.v 0)), true), ((.le (.v 0) (.c 60)), true), ((.le (.c 0) (.v 1)), true), ((.le (.v 1) (.c 400)), true), ((.ap 1 (.a (.v 0) (.i (.v 0) .nil))), true), ((.lt (.v 1) (.v 6)), false), ((.ap 6 (.a (.v 0) (.i (.v 0) (.i (.v 1) .nil)))), false)]
noncomputable def h40tax1 : Vl := .dead [((.le h40tae3 h40tae1), false), ((.le h40tae1 (.c 1000)), true), ((.lt (.c 64) h40tae1), true), ((.le (.c 1) h40tae1), true), ((.le h40tae1 h40tae6), true), ((.ap 1 (.a h40tae0 (.i h40tae1 .nil))), true), ((.le (.c 0) (.v 0)), true), ((.le (.v 0) (.c 60)), true), ((.le (.c 0) (.v 1)), true), ((.le (.v 1) (.c 400)), true), ((.ap 1 (.a (.v 0) (.i (.v 0) .nil))), true), ((.lt (.v 1) (.v 6)), false), ((.ap 6 (.a (.v 0) (.i (.v 0) (.i (.v 1) .nil)))), false)]
noncomputable def h40tax2 : Vl := .dead [((.le h40tae1 (.c 1000)), false), ((.lt (.c 64) h40tae1), true), ((.le (.c 1) h40tae1), true), ((.le h40tae1 h40tae6), true), ((.ap 1 (.a h40tae0 (.i h40tae1 .nil))), true), ((.le (.c 0) (.v 0)), true), ((.le (.v 0) (.c 60)), true), ((.le (.c 0) (.v 1)), true), ((.le (.v 1) (.c 400)), true), ((.ap 1 (.a (.v 0) (.i (.v 0) .nil))), true), ((.lt (.v 1) (.v 6)), false), ((.ap 6 (.a (.v 0) (.i (.v 0) (.i (.v 1) .nil)))), false)]
noncomputable def h40tax3 : Vl := .out 0 [.b (.ap 3 (.a (.v 0) (.i (.v 0) (.i (.v 1) .nil)))) (.c true), .i (.v 31) (.v 31), .i (.v 32) (.v 32), .i (.v 33) (.v 33), .i (.v 6) (.v 6), .b (.v 0) (.v 0), .i (.v 34) (.v 34), .i (.v 35) (.v 35), .i (.v 36) (.v 36), .b (.v 1) (.v 1), .i (.v 37) (.v 37), .i (.v 38) (.v 38), .i (.v 39) (.v 39), .a h40tae0 h40tae0 h40tae1 2, .i h40tae1 h40tae1] [((.lt (.c 64) h40tae1), false), ((.le (.c 1) h40tae1), true), ((.le h40tae1 h40tae6), true), ((.ap 1 (.a h40tae0 (.i h40tae1 .nil))), true), ((.le (.c 0) (.v 0)), true), ((.le (.v 0) (.c 60)), true), ((.le (.c 0) (.v 1)), true), ((.le (.v 1) (.c 400)), true), ((.ap 1 (.a (.v 0) (.i (.v 0) .nil))), true), ((.lt (.v 1) (.v 6)), false), ((.ap 6 (.a (.v 0) (.i (.v 0) (.i (.v 1) .nil)))), false)]
noncomputable def h40tals : List Vl := [h40tax0, h40tax1, h40tax2, h40tax3]
noncomputable def h61tae0 : SE := .sub (.v 0) (.c 1)
noncomputable def h61tae1 : SE := .mul h61tae0 (.c 2)
noncomputable def h61tae2 : SE := .add h61tae1 (.c 1)
noncomputable def h61tae3 : SE := .rd (.v 0) h61tae2
noncomputable def h61tae4 : SE := .mn h61tae3 (.v 1)
noncomputable def h61tae5 : SE := .ap 7 (.a (.v 0) (.i (.v 0) (.i (.v 1) (.i (.v 6) .nil))))
noncomputable def h61tax0 : Vl := .go 0 [(20, h61tae0), (21, h61tae4)] [] [] [((.lt h61tae0 (.v 0)), true), ((.le h61tae3 (.c 1000)), true), ((.le (.c 0) h61tae3), true), ((.eq (.v 6) (.c (-1))), true), ((.le (.c 1) (.v 0)), true), ((.le (.v 0) (.c 61)), true), ((.le (.c (-1)) (.v 1)), true), ((.le (.v 1) (.c 400)), true), ((.le (.c (-1)) (.v 6)), true), ((.le (.v 6) (.c 1000)), true), ((.ap 1 (.a (.v 0) (.i (.v 0) .nil))), true)] (.code (.loop (loopB (prm61 Try.prog).P 61 5))) (loopK (prm61 Try.prog).P 61 5)
noncomputable def h61tax1 : Vl := .dead [((.lt h61tae0 (.v 0)), false), ((.le h61tae3 (.c 1000)), true), ((.le (.c 0) h61tae3), true), ((.eq (.v 6) (.c (-1))), true), ((.le (.c 1) (.v 0)), true), ((.le (.v 0) (.c 61)), true), ((.le (.c (-1)) (.v 1)), true), ((.le (.v 1) (.c 400)), true), ((.le (.c (-1)) (.v 6)), true), ((.le (.v 6) (.c 1000)), true), ((.ap 1 (.a (.v 0) (.i (.v 0) .nil))), true)]
noncomputable def h61tax2 : Vl := .dead [((.le h61tae3 (.c 1000)), false), ((.le (.c 0) h61tae3), true), ((.eq (.v 6) (.c (-1))), true), ((.le (.c 1) (.v 0)), true), ((.le (.v 0) (.c 61)), true), ((.le (.c (-1)) (.v 1)), true), ((.le (.v 1) (.c 400)), true), ((.le (.c (-1)) (.v 6)), true), ((.le (.v 6) (.c 1000)), true), ((.ap 1 (.a (.v 0) (.i (.v 0) .nil))), true)]
noncomputable def h61tax3 : Vl := .dead [((.le (.c 0) h61tae3), false), ((.eq (.v 6) (.c (-1))), true), ((.le (.c 1) (.v 0)), true), ((.le (.v 0) (.c 61)), true), ((.le (.c (-1)) (.v 1)), true), ((.le (.v 1) (.c 400)), true), ((.le (.c (-1)) (.v 6)), true), ((.le (.v 6) (.c 1000)), true), ((.ap 1 (.a (.v 0) (.i (.v 0) .nil))), true)]
noncomputable def h61tax4 : Vl := .out 0 [.i (.c (-1)) h61tae5, .i (.v 31) (.v 31), .i (.v 32) (.v 32), .i (.v 33) (.v 33), .i (.v 6) (.v 6), .b (.v 0) (.v 0), .i (.v 34) (.v 34), .i (.v 35) (.v 35), .i (.v 36) (.v 36), .b (.v 1) (.v 1), .i (.v 37) (.v 37), .i (.v 38) (.v 38), .i (.v 39) (.v 39), .a (.v 0) (.v 0) (.v 0) 2, .i (.v 0) (.v 0)] [((.lt (.v 1) (.v 6)), true), ((.eq (.v 6) (.c (-1))), false), ((.le (.c 1) (.v 0)), true), ((.le (.v 0) (.c 61)), true), ((.le (.c (-1)) (.v 1)), true), ((.le (.v 1) (.c 400)), true), ((.le (.c (-1)) (.v 6)), true), ((.le (.v 6) (.c 1000)), true), ((.ap 1 (.a (.v 0) (.i (.v 0) .nil))), true)]
noncomputable def h61tax5 : Vl := .go 0 [(20, h61tae0), (21, h61tae4)] [] [] [((.lt h61tae0 (.v 0)), true), ((.le h61tae3 (.c 1000)), true), ((.le (.c 0) h61tae3), true), ((.lt (.v 1) (.v 6)), false), ((.eq (.v 6) (.c (-1))), false), ((.le (.c 1) (.v 0)), true), ((.le (.v 0) (.c 61)), true), ((.le (.c (-1)) (.v 1)), true), ((.le (.v 1) (.c 400)), true), ((.le (.c (-1)) (.v 6)), true), ((.le (.v 6) (.c 1000)), true), ((.ap 1 (.a (.v 0) (.i (.v 0) .nil))), true)] (.code (.loop (loopB (prm61 Try.prog).P 61 5))) (loopK (prm61 Try.prog).P 61 5)
noncomputable def h61tax6 : Vl := .dead [((.lt h61tae0 (.v 0)), false), ((.le h61tae3 (.c 1000)), true), ((.le (.c 0) h61tae3), true), ((.lt (.v 1) (.v 6)), false), ((.eq (.v 6) (.c (-1))), false), ((.le (.c 1) (.v 0)), true), ((.le (.v 0) (.c 61)), true), ((.le (.c (-1)) (.v 1)), true), ((.le (.v 1) (.c 400)), true), ((.le (.c (-1)) (.v 6)), true), ((.le (.v 6) (.c 1000)), true), ((.ap 1 (.a (.v 0) (.i (.v 0) .nil))), true)]
noncomputable def h61tax7 : Vl := .dead [((.le h61tae3 (.c 1000)), false), ((.le (.c 0) h61tae3), true), ((.lt (.v 1) (.v 6)), false), ((.eq (.v 6) (.c (-1))), false), ((.le (.c 1) (.v 0)), true), ((.le (.v 0) (.c 61)), true), ((.le (.c (-1)) (.v 1)), true), ((.le (.v 1) (.c 400)), true), ((.le (.c (-1)) (.v 6)), true), ((.le (.v 6) (.c 1000)), true), ((.ap 1 (.a (.v 0) (.i (.v 0) .nil))), true)]
noncomputable def h61tax8 : Vl := .dead [((.le (.c 0) h61tae3), false), ((.lt (.v 1) (.v 6)), false), ((.eq (.v 6) (.c (-1))), false), ((.le (.c 1) (.v 0)), true), ((.le (.v 0) (.c 61)), true), ((.le (.c (-1)) (.v 1)), true), ((.le (.v 1) (.c 400)), true), ((.le (.c (-1)) (.v 6)), true), ((.le (.v 6) (.c 1000)), true), ((.ap 1 (.a (.v 0) (.i (.v 0) .nil))), true)]
noncomputable def h61tals : List Vl := [h61tax0, h61tax1, h61tax2, h61tax3, h61tax4, h61tax5, h61tax6, h61tax7, h61tax8]
noncomputable def h61tp0e0 : SE := .mul (.v 20) (.c 2)
noncomputable def h61tp0e1 : SE := .rd (.v 0) h61tp0e0
noncomputable def h61tp0e2 : SE := .sub h61tp0e1 (.c 1)
noncomputable def h61tp0e3 : SE := .ap 7 (.a (.v 0) (.i (.v 0) (.i (.v 1) (.i (.v 6) .nil))))
noncomputable def h61tp0e4 : SE := .add h61tp0e0 (.c 1)
noncomputable def h61tp0e5 : SE := .rd (.v 0) h61tp0e4
noncomputable def h61tp0e6 : SE := .sub (.v 20) (.c 1)
noncomputable def h61tp0e7 : SE := .mul h61tp0e6 (.c 2)
noncomputable def h61tp0e8 : SE := .add h61tp0e7 (.c 1)
noncomputable def h61tp0e9 : SE := .rd (.v 0) h61tp0e8
noncomputable def h61tp0x0 : Vl := .out 0 [.i h61tp0e2 h61tp0e3, .i (.v 31) (.v 31), .i (.v 32) (.v 32), .i (.v 33) (.v 33), .i (.v 6) (.v 6), .b (.v 0) (.v 0), .i (.v 34) (.v 34), .i (.v 35) (.v 35), .i (.v 36) (.v 36), .b (.v 1) (.v 1), .i (.v 37) (.v 37), .i (.v 38) (.v 38), .i (.v 39) (.v 39), .a (.v 0) (.v 0) (.v 0) 2, .i (.v 0) (.v 0)] [((.eq (.v 6) (.c (-1))), true), ((.le h61tp0e1 (.c 1000)), true), ((.le (.c 0) h61tp0e1), true), ((.le (.v 21) h61tp0e5), true), ((.le h61tp0e1 (.v 21)), true), ((.le (.c 0) (.v 20)), true), ((.le (.c 1) (.v 0)), true), ((.le (.v 0) (.c 61)), true), ((.le (.c (-1)) (.v 1)), true), ((.le (.v 1) (.c 400)), true), ((.le (.c (-1)) (.v 6)), true), ((.le (.v 6) (.c 1000)), true), ((.ap 1 (.a (.v 0) (.i (.v 0) .nil))), true), ((.le (.c (-1)) (.v 20)), true), ((.le (.v 20) (.c 60)), true), ((.lt (.v 20) (.v 0)), true), ((.le (.c (-1)) (.v 21)), true), ((.le (.v 21) (.c 1000)), true)]
noncomputable def h61tp0x1 : Vl := .out 0 [.i (.c (-1)) h61tp0e3, .i (.v 31) (.v 31), .i (.v 32) (.v 32), .i (.v 33) (.v 33), .i (.v 6) (.v 6), .b (.v 0) (.v 0), .i (.v 34) (.v 34), .i (.v 35) (.v 35), .i (.v 36) (.v 36), .b (.v 1) (.v 1), .i (.v 37) (.v 37), .i (.v 38) (.v 38), .i (.v 39) (.v 39), .a (.v 0) (.v 0) (.v 0) 2, .i (.v 0) (.v 0)] [((.lt h61tp0e2 (.v 6)), true), ((.eq (.v 6) (.c (-1))), false), ((.le h61tp0e1 (.c 1000)), true), ((.le (.c 0) h61tp0e1), true), ((.le (.v 21) h61tp0e5), true), ((.le h61tp0e1 (.v 21)), true), ((.le (.c 0) (.v 20)), true), ((.le (.c 1) (.v 0)), true), ((.le (.v 0) (.c 61)), true), ((.le (.c (-1)) (.v 1)), true), ((.le (.v 1) (.c 400)), true), ((.le (.c (-1)) (.v 6)), true), ((.le (.v 6) (.c 1000)), true), ((.ap 1 (.a (.v 0) (.i (.v 0) .nil))), true), ((.le (.c (-1)) (.v 20)), true), ((.le (.v 20) (.c 60)), true), ((.lt (.v 20) (.v 0)), true), ((.le (.c (-1)) (.v 21)), true), ((.le (.v 21) (.c 1000)), true)]
noncomputable def h61tp0x2 : Vl := .out 0 [.i h61tp0e2 h61tp0e3, .i (.v 31) (.v 31), .i (.v 32) (.v 32), .i (.v 33) (.v 33), .i (.v 6) (.v 6), .b (.v 0) (.v 0), .i (.v 34) (.v 34), .i (.v 35) (.v 35), .i (.v 36) (.v 36), .b (.v 1) (.v 1), .i (.v 37) (.v 37), .i (.v 38) (.v 38), .i (.v 39) (.v 39), .a (.v 0) (.v 0) (.v 0) 2, .i (.v 0) (.v 0)] [((.lt h61tp0e2 (.v 6)), false), ((.eq (.v 6) (.c (-1))), false), ((.le h61tp0e1 (.c 1000)), true), ((.le (.c 0) h61tp0e1), true), ((.le (.v 21) h61tp0e5), true), ((.le h61tp0e1 (.v 21)), true), ((.le (.c 0) (.v 20)), true), ((.le (.c 1) (.v 0)), true), ((.le (.v 0) (.c 61)), true), ((.le (.c (-1)) (.v 1)), true), ((.le (.v 1) (.c 400)), true), ((.le (.c (-1)) (.v 6)), true), ((.le (.v 6) (.c 1000)), true), ((.ap 1 (.a (.v 0) (.i (.v 0) .nil))), true), ((.le (.c (-1)) (.v 20)), true), ((.le (.v 20) (.c 60)), true), ((.lt (.v 20) (.v 0)), true), ((.le (.c (-1)) (.v 21)), true), ((.le (.v 21) (.c 1000)), true)]
noncomputable def h61tp0x3 : Vl := .dead [((.le h61tp0e1 (.c 1000)), false), ((.le (.c 0) h61tp0e1), true), ((.le (.v 21) h61tp0e5), true), ((.le h61tp0e1 (.v 21)), true), ((.le (.c 0) (.v 20)), true), ((.le (.c 1) (.v 0)), true), ((.le (.v 0) (.c 61)), true), ((.le (.c (-1)) (.v 1)), true), ((.le (.v 1) (.c 400)), true), ((.le (.c (-1)) (.v 6)), true), ((.le (.v 6) (.c 1000)), true), ((.ap 1 (.a (.v 0) (.i (.v 0) .nil))), true), ((.le (.c (-1)) (.v 20)), true), ((.le (.v 20) (.c 60)), true), ((.lt (.v 20) (.v 0)), true), ((.le (.c (-1)) (.v 21)), true), ((.le (.v 21) (.c 1000)), true)]
noncomputable def h61tp0x4 : Vl := .dead [((.le (.c 0) h61tp0e1), false), ((.le (.v 21) h61tp0e5), true), ((.le h61tp0e1 (.v 21)), true), ((.le (.c 0) (.v 20)), true), ((.le (.c 1) (.v 0)), true), ((.le (.v 0) (.c 61)), true), ((.le (.c (-1)) (.v 1)), true), ((.le (.v 1) (.c 400)), true), ((.le (.c (-1)) (.v 6)), true), ((.le (.v 6) (.c 1000)), true), ((.ap 1 (.a (.v 0) (.i (.v 0) .nil))), true), ((.le (.c (-1)) (.v 20)), true), ((.le (.v 20) (.c 60)), true), ((.lt (.v 20) (.v 0)), true), ((.le (.c (-1)) (.v 21)), true), ((.le (.v 21) (.c 1000)), true)]
noncomputable def h61tp0x5 : Vl := .out 0 [.i (.v 21) h61tp0e3, .i (.v 31) (.v 31), .i (.v 32) (.v 32), .i (.v 33) (.v 33), .i (.v 6) (.v 6), .b (.v 0) (.v 0), .i (.v 34) (.v 34), .i (.v 35) (.v 35), .i (.v 36) (.v 36), .b (.v 1) (.v 1), .i (.v 37) (.v 37), .i (.v 38) (.v 38), .i (.v 39) (.v 39), .a (.v 0) (.v 0) (.v 0) 2, .i (.v 0) (.v 0)] [((.le (.v 21) h61tp0e1), true), ((.lt h61tp0e9 (.v 21)), true), ((.lt h61tp0e6 (.v 0)), true), ((.le (.c 1) (.v 20)), true), ((.le (.v 21) h61tp0e5), false), ((.le h61tp0e1 (.v 21)), true), ((.le (.c 0) (.v 20)), true), ((.le (.c 1) (.v 0)), true), ((.le (.v 0) (.c 61)), true), ((.le (.c (-1)) (.v 1)), true), ((.le (.v 1) (.c 400)), true), ((.le (.c (-1)) (.v 6)), true), ((.le (.v 6) (.c 1000)), true), ((.ap 1 (.a (.v 0) (.i (.v 0) .nil))), true), ((.le (.c (-1)) (.v 20)), true), ((.le (.v 20) (.c 60)), true), ((.lt (.v 20) (.v 0)), true), ((.le (.c (-1)) (.v 21)), true), ((.le (.v 21) (.c 1000)), true)]
noncomputable def h61tp0x6 : Vl := .go 0 [(20, h61tp0e6)] [] [] [((.le (.v 21) h61tp0e1), false), ((.lt h61tp0e9 (.v 21)), true), ((.lt h61tp0e6 (.v 0)), true), ((.le (.c 1) (.v 20)), true), ((.le (.v 21) h61tp0e5), false), ((.le h61tp0e1 (.v 21)), true), ((.le (.c 0) (.v 20)), true), ((.le (.c 1) (.v 0)), true), ((.le (.v 0) (.c 61)), true), ((.le (.c (-1)) (.v 1)), true), ((.le (.v 1) (.c 400)), true), ((.le (.c (-1)) (.v 6)), true), ((.le (.v 6) (.c 1000)), true), ((.ap 1 (.a (.v 0) (.i (.v 0) .nil))), true), ((.le (.c (-1)) (.v 20)), true), ((.le (.v 20) (.c 60)), true), ((.lt (.v 20) (.v 0)), true), ((.le (.c (-1)) (.v 21)), true), ((.le (.v 21) (.c 1000)), true)] (.exit .normal) (.loop (loopB (prm61 Try.prog).P 61 5) :: loopK (prm61 Try.prog).P 61 5)
noncomputable def h61tp0x7 : Vl := .go 0 [(20, h61tp0e6)] [] [] [((.lt h61tp0e9 (.v 21)), false), ((.lt h61tp0e6 (.v 0)), true), ((.le (.c 1) (.v 20)), true), ((.le (.v 21) h61tp0e5), false), ((.le h61tp0e1 (.v 21)), true), ((.le (.c 0) (.v 20)), true), ((.le (.c 1) (.v 0)), true), ((.le (.v 0) (.c 61)), true), ((.le (.c (-1)) (.v 1)), true), ((.le (.v 1) (.c 400)), true), ((.le (.c (-1)) (.v 6)), true), ((.le (.v 6) (.c 1000)), true), ((.ap 1 (.a (.v 0) (.i (.v 0) .nil))), true), ((.le (.c (-1)) (.v 20)), true), ((.le (.v 20) (.c 60)), true), ((.lt (.v 20) (.v 0)), true), ((.le (.c (-1)) (.v 21)), true), ((.le (.v 21) (.c 1000)), true)] (.exit .normal) (.loop (loopB (prm61 Try.prog).P 61 5) :: loopK (prm61 Try.prog).P 61 5)
noncomputable def h61tp0x8 : Vl := .dead [((.lt h61tp0e6 (.v 0)), false), ((.le (.c 1) (.v 20)), true), ((.le (.v 21) h61tp0e5), false), ((.le h61tp0e1 (.v 21)), true), ((.le (.c 0) (.v 20)), true), ((.le (.c 1) (.v 0)), true), ((.le (.v 0) (.c 61)), true), ((.le (.c (-1)) (.v 1)), true), ((.le (.v 1) (.c 400)), true), ((.le (.c (-1)) (.v 6)), true), ((.le (.v 6) (.c 1000)), true), ((.ap 1 (.a (.v 0) (.i (.v 0) .nil))), true), ((.le (.c (-1)) (.v 20)), true), ((.le (.v 20) (.c 60)), true), ((.lt (.v 20) (.v 0)), true), ((.le (.c (-1)) (.v 21)), true), ((.le (.v 21) (.c 1000)), true)]
noncomputable def h61tp0x9 : Vl := .go 0 [(20, h61tp0e6)] [] [] [((.le (.c 1) (.v 20)), false), ((.le (.v 21) h61tp0e5), false), ((.le h61tp0e1 (.v 21)), true), ((.le (.c 0) (.v 20)), true), ((.le (.c 1) (.v 0)), true), ((.le (.v 0) (.c 61)), true), ((.le (.c (-1)) (.v 1)), true), ((.le (.v 1) (.c 400)), true), ((.le (.c (-1)) (.v 6)), true), ((.le (.v 6) (.c 1000)), true), ((.ap 1 (.a (.v 0) (.i (.v 0) .nil))), true), ((.le (.c (-1)) (.v 20)), true), ((.le (.v 20) (.c 60)), true), ((.lt (.v 20) (.v 0)), true), ((.le (.c (-1)) (.v 21)), true), ((.le (.v 21) (.c 1000)), true)] (.exit .normal) (.loop (loopB (prm61 Try.prog).P 61 5) :: loopK (prm61 Try.prog).P 61 5)
noncomputable def h61tp0x10 : Vl := .out 0 [.i (.v 21) h61tp0e3, .i (.v 31) (.v 31), .i (.v 32) (.v 32), .i (.v 33) (.v 33), .i (.v 6) (.v 6), .b (.v 0) (.v 0), .i (.v 34) (.v 34), .i (.v 35) (.v 35), .i (.v 36) (.v 36), .b (.v 1) (.v 1), .i (.v 37) (.v 37), .i (.v 38) (.v 38), .i (.v 39) (.v 39), .a (.v 0) (.v 0) (.v 0) 2, .i (.v 0) (.v 0)] [((.le (.v 21) h61tp0e1), true), ((.lt h61tp0e9 (.v 21)), true), ((.lt h61tp0e6 (.v 0)), true), ((.le (.c 1) (.v 20)), true), ((.le h61tp0e1 (.v 21)), false), ((.le (.c 0) (.v 20)), true), ((.le (.c 1) (.v 0)), true), ((.le (.v 0) (.c 61)), true), ((.le (.c (-1)) (.v 1)), true), ((.le (.v 1) (.c 400)), true), ((.le (.c (-1)) (.v 6)), true), ((.le (.v 6) (.c 1000)), true), ((.ap 1 (.a (.v 0) (.i (.v 0) .nil))), true), ((.le (.c (-1)) (.v 20)), true), ((.le (.v 20) (.c 60)), true), ((.lt (.v 20) (.v 0)), true), ((.le (.c (-1)) (.v 21)), true), ((.le (.v 21) (.c 1000)), true)]
noncomputable def h61tp0x11 : Vl := .go 0 [(20, h61tp0e6)] [] [] [((.le (.v 21) h61tp0e1), false), ((.lt h61tp0e9 (.v 21)), true), ((.lt h61tp0e6 (.v 0)), true), ((.le (.c 1) (.v 20)), true), ((.le h61tp0e1 (.v 21)), false), ((.le (.c 0) (.v 20)), true), ((.le (.c 1) (.v 0)), true), ((.le (.v 0) (.c 61)), true), ((.le (.c (-1)) (.v 1)), true), ((.le (.v 1) (.c 400)), true), ((.le (.c (-1)) (.v 6)), true), ((.le (.v 6) (.c 1000)), true), ((.ap 1 (.a (.v 0) (.i (.v 0) .nil))), true), ((.le (.c (-1)) (.v 20)), true), ((.le (.v 20) (.c 60)), true), ((.lt (.v 20) (.v 0)), true), ((.le (.c (-1)) (.v 21)), true), ((.le (.v 21) (.c 1000)), true)] (.exit .normal) (.loop (loopB (prm61 Try.prog).P 61 5) :: loopK (prm61 Try.prog).P 61 5)
noncomputable def h61tp0x12 : Vl := .go 0 [(20, h61tp0e6)] [] [] [((.lt h61tp0e9 (.v 21)), false), ((.lt h61tp0e6 (.v 0)), true), ((.le (.c 1) (.v 20)), true), ((.le h61tp0e1 (.v 21)), false), ((.le (.c 0) (.v 20)), true), ((.le (.c 1) (.v 0)), true), ((.le (.v 0) (.c 61)), true), ((.le (.c (-1)) (.v 1)), true), ((.le (.v 1) (.c 400)), true), ((.le (.c (-1)) (.v 6)), true), ((.le (.v 6) (.c 1000)), true), ((.ap 1 (.a (.v 0) (.i (.v 0) .nil))), true), ((.le (.c (-1)) (.v 20)), true), ((.le (.v 20) (.c 60)), true), ((.lt (.v 20) (.v 0)), true), ((.le (.c (-1)) (.v 21)), true), ((.le (.v 21) (.c 1000)), true)] (.exit .normal) (.loop (loopB (prm61 Try.prog).P 61 5) :: loopK (prm61 Try.prog).P 61 5)
noncomputable def h61tp0x13 : Vl := .dead [((.lt h61tp0e6 (.v 0)), false), ((.le (.c 1) (.v 20)), true), ((.le h61tp0e1 (.v 21)), false), ((.le (.c 0) (.v 20)), true), ((.le (.c 1) (.v 0)), true), ((.le (.v 0) (.c 61)), true), ((.le (.c (-1)) (.v 1)), true), ((.le (.v 1) (.c 400)), true), ((.le (.c (-1)) (.v 6)), true), ((.le (.v 6) (.c 1000)), true), ((.ap 1 (.a (.v 0) (.i (.v 0) .nil))), true), ((.le (.c (-1)) (.v 20)), true), ((.le (.v 20) (.c 60)), true), ((.lt (.v 20) (.v 0)), true), ((.le (.c (-1)) (.v 21)), true), ((.le (.v 21) (.c 1000)), true)]
noncomputable def h61tp0x14 : Vl := .go 0 [(20, h61tp0e6)] [] [] [((.le (.c 1) (.v 20)), false), ((.le h61tp0e1 (.v 21)), false), ((.le (.c 0) (.v 20)), true), ((.le (.c 1) (.v 0)), true), ((.le (.v 0) (.c 61)), true), ((.le (.c (-1)) (.v 1)), true), ((.le (.v 1) (.c 400)), true), ((.le (.c (-1)) (.v 6)), true), ((.le (.v 6) (.c 1000)), true), ((.ap 1 (.a (.v 0) (.i (.v 0) .nil))), true), ((.le (.c (-1)) (.v 20)), true), ((.le (.v 20) (.c 60)), true), ((.lt (.v 20) (.v 0)), true), ((.le (.c (-1)) (.v 21)), true), ((.le (.v 21) (.c 1000)), true)] (.exit .normal) (.loop (loopB (prm61 Try.prog).P 61 5) :: loopK (prm61 Try.prog).P 61 5)
noncomputable def h61tp0x15 : Vl := .out 0 [.i (.v 21) h61tp0e3, .i (.v 31) (.v 31), .i (.v 32) (.v 32), .i (.v 33) (.v 33), .i (.v 6) (.v 6), .b (.v 0) (.v 0), .i (.v 34) (.v 34), .i (.v 35) (.v 35), .i (.v 36) (.v 36), .b (.v 1) (.v 1), .i (.v 37) (.v 37), .i (.v 38) (.v 38), .i (.v 39) (.v 39), .a (.v 0) (.v 0) (.v 0) 2, .i (.v 0) (.v 0)] [((.le (.c 0) (.v 20)), false), ((.le (.c 1) (.v 0)), true), ((.le (.v 0) (.c 61)), true), ((.le (.c (-1)) (.v 1)), true), ((.le (.v 1) (.c 400)), true), ((.le (.c (-1)) (.v 6)), true), ((.le (.v 6) (.c 1000)), true), ((.ap 1 (.a (.v 0) (.i (.v 0) .nil))), true), ((.le (.c (-1)) (.v 20)), true), ((.le (.v 20) (.c 60)), true), ((.lt (.v 20) (.v 0)), true), ((.le (.c (-1)) (.v 21)), true), ((.le (.v 21) (.c 1000)), true)]
noncomputable def h61tp0ls : List Vl := [h61tp0x0, h61tp0x1, h61tp0x2, h61tp0x3, h61tp0x4, h61tp0x5, h61tp0x6, h61tp0x7, h61tp0x8, h61tp0x9, h61tp0x10, h61tp0x11, h61tp0x12, h61tp0x13, h61tp0x14, h61tp0x15]
theorem h61tp0run : (run (prm61 Try.prog) 900 (ptD (pts61 Try.prog laT an3) 0 61)).map (vOf (prm61 Try.prog) (ct61 laT an3) (pts61 Try.prog laT an3)) = h61tp0ls := by kernel_rfl
theorem prm39_ok (E : Env) (hE : E.fn = fns) : PrmOk E (prm39 Try.prog) := prm_ok E hE (by intro c hc; cases hc) (by intro b hb; cases hb)
theorem prm61_ok (E : Env) (hE : E.fn = fns) : PrmOk E (prm61 Try.prog) := prm_ok E hE (by intro c hc; cases hc) (by intro b hb; cases hb)
theorem prm40n_ok (E : Env) (hE : E.fn = fns) : PrmOk E (prm40 Try.prog laN an2) := prm_ok E hE (by
    intro c hc
    simp only [List.mem_cons, List.not_mem_nil, or_false] at hc
    rcases hc with rfl | rfl
    · exact ct50n_ok
    · exact ct51_ok) (by intro b hb; cases hb)
theorem prm40t_ok (E : Env) (hE : E.fn = fns) : PrmOk E (prm40 Try.prog laT an3) := prm_ok E hE (by
    intro c hc
    simp only [List.mem_cons, List.not_mem_nil, or_false] at hc
    rcases hc with rfl | rfl
    · exact ct50t_ok
    · exact ct51_ok) (by intro b hb; cases hb)
theorem mem_den {E : Env} (hE : E.fn = fns) {n : Nat} (hn : E.i 0 = n) : (SB.ap 6 (.a (.v 0) (.i (.v 0) (.i (.v 1) .nil)))).den E = (open Classical in decide (Mem (E.a 0) n (E.i 1))) := by
  simp only [SB.den, SL.den, AE.den, SE.den, hE]
  show @decide (Mem (fun j => E.a 0 j) (E.i 0).toNat (E.i 1)) (Classical.propDecidable _) = _
  rw [hn]; rfl
theorem mem_f {E : Env} (hE : E.fn = fns) {n : Nat} (hn : E.i 0 = n) (h : (SB.ap 6 (.a (.v 0) (.i (.v 0) (.i (.v 1) .nil)))).den E = false) : ¬ Mem (E.a 0) n (E.i 1) := by
  rw [mem_den hE hn] at h
  exact @of_decide_eq_false _ (Classical.propDecidable _) h
theorem mem_no {A : Nat → Int} {n k : Nat} {p : Int} (hr : Rg A n) (hk : k ≤ n) (up : k < n → p < A (k * 2)) (lo : 0 < k → A ((k - 1) * 2 + 1) < p) : ¬ Mem A n p := by
  rintro ⟨j, hj, h1, h2⟩
  rcases Nat.lt_or_ge j k with h | h
  · have hl := lo (by omega)
    rcases Nat.lt_or_ge j (k - 1) with h3 | h3
    · have := hr.gap j (k - 1) h3 (by omega); have := hr.le (k - 1) (by omega); omega
    · have : j = k - 1 := by omega
      subst this; omega
  · have hu := up (by omega)
    rcases Nat.lt_or_ge k j with h3 | h3
    · have := hr.gap k j h3 hj; have := hr.le k (by omega); omega
    · have : j = k := by omega
      subst this; omega
structure I39 (n : Nat) (E0 E : Env) (k : Nat) : Prop where
  s : Sm 20 E0 E
  i20 : E.i 20 = (k : Int) - 1
  kn : k ≤ n
  up : k < n → E0.i 1 < E0.a 0 (k * 2)
  db : ¬ E0.i 1 < E0.i 6
theorem hm_den {E : Env} (hE : E.fn = fns) {n : Nat} (hn : E.i 0 = n) : (ct61.hmE (.v 0) (.v 0) (.v 1) (.v 6)).den E = hm (E.a 0) n (E.i 1) (E.i 6) := by
  simp only [ct61.hmE, SL.den, AE.den, SE.den, hE]
  show hm (fun j => E.a 0 j) (E.i 0).toNat (E.i 1) (E.i 6) = _
  rw [hn]; rfl
structure Sm2 (E0 E : Env) : Prop where
  i : ∀ k, k ≠ 20 → k ≠ 21 → E.i k = E0.i k
  b : E.b = E0.b
  a : E.a = E0.a
structure I61 (n : Nat) (E0 E : Env) (k : Nat) : Prop where
  s : Sm2 E0 E
  i20 : E.i 20 = (k : Int) - 1
  i21 : E.i 21 = min (E0.a 0 ((n - 1) * 2 + 1)) (E0.i 1)
  kn : k ≤ n
  db : ¬ (E0.i 6 ≠ -1 ∧ E0.i 1 < E0.i 6)
  eq : hmR (E0.a 0) (E.i 21) (E0.i 6) n = hmR (E0.a 0) (E.i 21) (E0.i 6) k
theorem pre61 {E0 : Env} {la : SV} {ex : List SBlk} (hE : E0.fn = fns) (hF : Facts E0 (ct61 la ex).pre) : ∃ n : Nat, E0.i 0 = n ∧ 1 ≤ n ∧ n ≤ 61 ∧ (-1 ≤ E0.i 1 ∧ E0.i 1 ≤ 400) ∧ (-1 ≤ E0.i 6 ∧ E0.i 6 ≤ 1000) ∧ Rg (E0.a 0) n := by
  have hF' : Facts E0 [((.le (.c 1) (.v 0)), true), ((.le (.v 0) (.c 61)), true), ((.le (.c (-1)) (.v 1)), true), ((.le (.v 1) (.c 400)), true), ((.le (.c (-1)) (.v 6)), true), ((.le (.v 6) (.c 1000)), true), rgF (.v 0) (.v 0)] := hF
  have h := rg_of hE (.v 0) (.v 0) (hF' (rgF (.v 0) (.v 0)) (by simp))
  simp only [facts_cons, facts_nil, le_t, d_c, d_v, and_true, rgF] at hF'
  obtain ⟨a, b, c, d, e, f, g⟩ := hF'
  refine ⟨(E0.i 0).toNat, by omega, by omega, by omega, ⟨c, d⟩, ⟨e, f⟩, ?_⟩
  have h2 : Rg (E0.a 0) (E0.i 0).toNat := h
  exact h2
theorem rg_at {A : Nat → Int} {n : Nat} (hr : Rg A n) : ∀ m, m < n * 2 → 0 ≤ A m ∧ A m ≤ 1000 := fun m hm => by
  obtain ⟨j, rfl | rfl⟩ : ∃ j, m = j * 2 ∨ m = j * 2 + 1 := ⟨m / 2, by omega⟩
  · have := hr.lo j (by omega); have := hr.hi j (by omega); have := hr.le j (by omega); omega
  · have := hr.lo j (by omega); have := hr.hi j (by omega); have := hr.le j (by omega); omega
theorem keep39 {E0 E : Env} (h : ∀ k, k ≠ 20 → k ≠ 21 → E.i k = E0.i k) (hb : E.b = E0.b) (ha : E.a = E0.a) : ∀ q ∈ ([.i (.v 31) (.v 31), .i (.v 32) (.v 32), .i (.v 33) (.v 33), .i (.v 6) (.v 6), .b (.v 0) (.v 0), .i (.v 34) (.v 34), .i (.v 35) (.v 35), .i (.v 36) (.v 36), .b (.v 1) (.v 1), .i (.v 37) (.v 37), .i (.v 38) (.v 38), .i (.v 39) (.v 39), .a (.v 0) (.v 0) (.v 0) 2, .i (.v 0) (.v 0)] : List Eqn), q.ok E E0 := by
  simp only [List.forall_mem_cons, List.not_mem_nil, false_imp_iff, implies_true, and_true, true_and, Eqn.ok]
  refine ⟨h 31 (by decide) (by decide), h 32 (by decide) (by decide), h 33 (by decide) (by decide), h 6 (by decide) (by decide), by show E.b 0 = E0.b 0; rw [hb], h 34 (by decide) (by decide), h 35 (by decide) (by decide), h 36 (by decide) (by decide), by show E.b 1 = E0.b 1; rw [hb], h 37 (by decide) (by decide), h 38 (by decide) (by decide), h 39 (by decide) (by decide), fun j _ => ?_, h 0 (by decide) (by decide)⟩
  show E.a 0 j = E0.a 0 j
  rw [ha]
theorem ct39n_ok : CtOk Try.prog fns (ct39 laN an2) := by
  refine ct_of_pts (p := prm39 Try.prog) (pts := pts39 Try.prog laN an2) (n := 900) (c0 := enterD (prm39 Try.prog) (ct39 laN an2)) (fun E hE => prm39_ok E hE) rfl (by intro q hq; cases hq) Try.func39 (by kernel_rfl) ?_ (fun E0 _ E => ∃ k, I39 (E0.i 0).toNat E0 E k) (fun E0 _ E => (E.i 20 + 1).toNat) h39nals (by kernel_rfl) ?_ ?_
  · intro t ht
    simp only [pts39, List.mem_cons, List.not_mem_nil, or_false] at ht
    subst ht
    exact ⟨by kernel_rfl, by decide⟩
  · intro E hE hF
    obtain ⟨n, hn, hn60, p0, p1, hr⟩ := pre50 (la := laN) (ex := an2) hE hF
    have hnt : (E.i 0).toNat = n := by omega
    refine ⟨fun a ha => ?_, fun x hx => ?_⟩
    · simp only [ct39, altSel] at ha
      split at ha
      · obtain rfl := Option.some.inj ha; intro q hq; cases hq
      · obtain rfl := Option.some.inj ha; intro q hq; cases hq
    · unfold h39nals at hx
      simp only [List.mem_cons, List.not_mem_nil, or_false] at hx
      rcases hx with rfl | rfl
      · intro hf
        have h0 := hf (SB.lt (.v 1) (.v 6), true) (by simp)
        refine ⟨by simp only [ct39, altSel, h0, if_true, List.getElem?_cons_zero], keep39 (fun _ _ _ => rfl) rfl rfl⟩
      · intro hf
        have h0 := hf (SB.lt (.v 1) (.v 6), false) (by simp)
        simp only [lt_f, d_v] at h0
        refine ⟨⟨_, rfl, .inl ⟨rfl, rfl⟩⟩, fun o => ⟨⟨n, (Sm.refl 20 E).put _ o, ?_, by omega, fun h => by omega, by omega⟩, fun b hb => by cases hb⟩⟩
        show E.i 0 - 1 = _
        omega
  · intro kk t ht
    have hk : kk = 0 := by
      have := (List.getElem?_eq_some_iff.1 ht).1
      simp [pts39] at this; omega
    subst hk
    refine ⟨h39np0ls, by rw [← ptD_some ht (ct39 laN an2).g]; exact h39np0run, fun E0 E hE0 hE hF0 ⟨k, hI⟩ => ?_⟩
    obtain ⟨n, hn, hn60, p0, p1, hr⟩ := pre50 (la := laN) (ex := an2) hE0 hF0
    have hnt : (E0.i 0).toNat = n := by omega
    rw [hnt] at hI
    obtain ⟨hS, h20, hkn, hup, hdb⟩ := hI
    have dM := mem_den hE0 hn
    have q0 := hS.i 0 (by decide); have q1 := hS.i 1 (by decide); have q6 := hS.i 6 (by decide)
    have qa : E.a 0 = E0.a 0 := by rw [hS.a]
    have hnE : E.i 0 = n := q0.trans hn
    refine ⟨?_, fun x hx => ?_⟩
    · obtain rfl := Option.some.inj ht
      show Facts E ([((.le (.c 0) (.v 0)), true), ((.le (.v 0) (.c 60)), true), ((.le (.c 0) (.v 1)), true), ((.le (.v 1) (.c 400)), true), ((rgF (.v 0) (.v 0)).1, true), ((.le (.c (-1)) (.v 20)), true), ((.le (.v 20) (.c 59)), true), ((.lt (.v 20) (.v 0)), true), ((.lt (.v 1) (.v 6)), false)])
      have hsr : (rgF (.v 0) (.v 0)).1.den E = true := of_rg hE (.v 0) (.v 0) (by
        show Rg (fun j => E.a 0 j) (E.i 0).toNat
        rw [hnE, Int.toNat_natCast, qa]; exact hr)
      simp only [facts_cons, facts_nil, le_t, lt_t, lt_f, d_c, d_v, d_add, and_true]
      refine ⟨by omega, by omega, by omega, by omega, hsr, by omega, by omega, by omega, by omega⟩
    · unfold h39np0ls at hx
      simp only [List.mem_cons, List.not_mem_nil, or_false] at hx
      have hal : altSel E0 (ct39 laN an2).alts = (ct39 laN an2).alts[1]? := by
        have h0 : (SB.lt (.v 1) (.v 6)).den E0 = false := by simp only [lt_f, d_v]; omega
        simp only [ct39, altSel, h0, Bool.false_eq_true, if_false, List.getElem?_cons_succ, List.getElem?_cons_zero]
        rfl
      have fin : ∀ B : SB, B.den E = (open Classical in decide (Mem (E0.a 0) n (E0.i 1))) → ∀ q ∈ (.b B (.ap 6 (.a (.v 0) (.i (.v 0) (.i (.v 1) .nil)))) :: [.i (.v 31) (.v 31), .i (.v 32) (.v 32), .i (.v 33) (.v 33), .i (.v 6) (.v 6), .b (.v 0) (.v 0), .i (.v 34) (.v 34), .i (.v 35) (.v 35), .i (.v 36) (.v 36), .b (.v 1) (.v 1), .i (.v 37) (.v 37), .i (.v 38) (.v 38), .i (.v 39) (.v 39), .a (.v 0) (.v 0) (.v 0) 2, .i (.v 0) (.v 0)] : List Eqn), q.ok E E0 := fun B hB => by
        rw [List.forall_mem_cons]
        exact ⟨hB.trans dM.symm, keep39 (fun k h1 _ => hS.i k h1) hS.b hS.a⟩
      have h20n : k = 0 ∨ ∃ i, k = i + 1 ∧ i < n ∧ E.i 20 = i ∧ h39np0e2.den E = E0.a 0 (i * 2 + 1) ∧ h39np0e3.den E = E0.a 0 (i * 2) := by
        rcases Nat.eq_zero_or_pos k with h | h
        · exact .inl h
        · refine .inr ⟨k - 1, by omega, by omega, by omega, ?_, ?_⟩
          · show E.a 0 (E.i 20 * 2 + 1).toNat = _
            rw [qa, show (E.i 20 * 2 + 1).toNat = (k - 1) * 2 + 1 by omega]
          · show E.a 0 (E.i 20 * 2).toNat = _
            rw [qa, show (E.i 20 * 2).toNat = (k - 1) * 2 by omega]
      have D4 : h39np0e4.den E = E.i 20 - 1 := rfl
      have hno : (0 < k → E0.a 0 ((k - 1) * 2 + 1) < E0.i 1) → false = (open Classical in decide (Mem (E0.a 0) n (E0.i 1))) := fun h => by
        have := mem_no hr hkn hup h
        simp [this]
      rcases hx with rfl | rfl | rfl | rfl | rfl
      · intro hf
        rcases h20n with rfl | ⟨i, rfl, hi, hi20, e2, e3⟩
        · have := hf (SB.le (.c 0) (.v 20), true) (by simp)
          simp only [le_t, d_c, d_v] at this; omega
        · have h1 := hf (SB.lt h39np0e2 (.v 1), true) (by simp)
          simp only [lt_t, d_v, e2, q1] at h1
          exact ⟨hal, fin _ (hno fun _ => by simpa using h1)⟩
      · intro hf
        rcases h20n with rfl | ⟨i, rfl, hi, hi20, e2, e3⟩
        · have := hf (SB.le (.c 0) (.v 20), true) (by simp)
          simp only [le_t, d_c, d_v] at this; omega
        · have h1 := hf (SB.le h39np0e3 (.v 1), true) (by simp)
          have h2 := hf (SB.le (.v 1) h39np0e2, true) (by simp)
          simp only [le_t, d_v, e2, e3, q1] at h1 h2
          have hm : Mem (E0.a 0) n (E0.i 1) := ⟨i, hi, h1, h2⟩
          exact ⟨hal, fin _ (by simp [hm, SB.den])⟩
      · intro hf
        rcases h20n with rfl | ⟨i, rfl, hi, hi20, e2, e3⟩
        · have := hf (SB.le (.c 0) (.v 20), true) (by simp)
          simp only [le_t, d_c, d_v] at this; omega
        · have h1 := hf (SB.le h39np0e3 (.v 1), false) (by simp)
          simp only [le_f, d_v, e3, q1] at h1
          refine ⟨⟨_, rfl, .inr ⟨rfl, rfl⟩⟩, fun o => ⟨⟨i, hS.put _ o, ?_, by omega, fun _ => h1, hdb⟩, fun b hb => ?_⟩⟩
          · show E.i 20 - 1 = _
            omega
          · obtain rfl := Option.some.inj hb
            show (E.i 20 - 1 + 1).toNat < (E.i 20 + 1).toNat
            omega
      · intro hf
        have h1 := hf (SB.le (.v 1) h39np0e2, false) (by simp)
        have h2 := hf (SB.lt h39np0e2 (.v 1), false) (by simp)
        simp only [le_f, lt_f, d_v] at h1 h2
        omega
      · intro hf
        have h1 := hf (SB.le (.c 0) (.v 20), false) (by simp)
        simp only [le_f, d_v, d_c] at h1
        exact ⟨hal, fin _ (hno fun h => by omega)⟩
theorem ct40n_ok : CtOk Try.prog fns (ct40 laN an2) := by
  refine ct_of_pts (p := prm40 Try.prog laN an2) (pts := []) (n := 900) (c0 := enterD (prm40 Try.prog laN an2) (ct40 laN an2)) (fun E hE => prm40n_ok E hE) rfl (by intro q hq; cases hq) Try.func40 (by kernel_rfl) (by intro t ht; cases ht) (fun _ _ _ => True) (fun _ _ _ => 0) h40nals (by kernel_rfl) ?_ (by intro i t ht; cases ht)
  intro E hE hF
  obtain ⟨n, hn, hn60, p0, p1, hr⟩ := pre50 (la := laN) (ex := an2) hE (fun q hq => hF q (by
    have hq' : q ∈ (bd (.v 0) 0 60 ++ bd (.v 1) 0 400) ++ [rgF (.v 0) (.v 0)] := hq
    rcases List.mem_append.1 hq' with h | h
    · exact List.mem_append_left _ h
    · exact List.mem_append_right _ (by simp at h ⊢; exact .inl h)))
  have hnt : (E.i 0).toNat = n := by omega
  obtain ⟨dB, dN, dA, dK⟩ := add_den hE hn
  obtain ⟨k1, k2, k3, k4⟩ := add_ok (p := E.i 1) hr p0 (by omega)
  have e1 : h40nae1.den E = _ := dN
  refine ⟨fun a ha => ?_, fun x hx => ?_⟩
  · obtain rfl := Option.some.inj ha; exact ad_facts hE hn p0 (by omega) hr
  · unfold h40nals at hx
    simp only [List.mem_cons, List.not_mem_nil, or_false] at hx
    rcases hx with rfl | rfl | rfl | rfl
    · intro hf
      have h1 := hf (SB.lt (.c 64) h40nae1, true) (by simp)
      simp only [lt_t, d_c, e1] at h1
      omega
    · intro hf
      have h1 := hf (SB.lt (.c 64) h40nae1, true) (by simp)
      simp only [lt_t, d_c, e1] at h1
      omega
    · intro hf
      have h1 := hf (SB.lt (.c 64) h40nae1, true) (by simp)
      simp only [lt_t, d_c, e1] at h1
      omega
    · intro hf
      have hM := hF (memB (.v 0) (.v 0) (.v 1), false) (by simp [ct40])
      have hM2 : (SB.ap 6 (.a (.v 0) (.i (.v 0) (.i (.v 1) .nil)))).den E = false := hM
      have hnm := mem_f hE hn hM2
      have hB : (b3 3 (.v 0) (.v 0) (.v 1)).den E = true := by rw [dB]; exact k3.2 hnm
      refine ⟨rfl, ?_⟩
      simp only [List.forall_mem_cons, List.not_mem_nil, false_imp_iff, implies_true, and_true, true_and, Eqn.ok]
      exact hB
theorem ct39t_ok : CtOk Try.prog fns (ct39 laT an3) := by
  refine ct_of_pts (p := prm39 Try.prog) (pts := pts39 Try.prog laT an3) (n := 900) (c0 := enterD (prm39 Try.prog) (ct39 laT an3)) (fun E hE => prm39_ok E hE) rfl (by intro q hq; cases hq) Try.func39 (by kernel_rfl) ?_ (fun E0 _ E => ∃ k, I39 (E0.i 0).toNat E0 E k) (fun E0 _ E => (E.i 20 + 1).toNat) h39tals (by kernel_rfl) ?_ ?_
  · intro t ht
    simp only [pts39, List.mem_cons, List.not_mem_nil, or_false] at ht
    subst ht
    exact ⟨by kernel_rfl, by decide⟩
  · intro E hE hF
    obtain ⟨n, hn, hn60, p0, p1, hr⟩ := pre50 (la := laN) (ex := an2) hE hF
    have hnt : (E.i 0).toNat = n := by omega
    refine ⟨fun a ha => ?_, fun x hx => ?_⟩
    · simp only [ct39, altSel] at ha
      split at ha
      · obtain rfl := Option.some.inj ha; intro q hq; cases hq
      · obtain rfl := Option.some.inj ha; intro q hq; cases hq
    · unfold h39tals at hx
      simp only [List.mem_cons, List.not_mem_nil, or_false] at hx
      rcases hx with rfl | rfl
      · intro hf
        have h0 := hf (SB.lt (.v 1) (.v 6), true) (by simp)
        refine ⟨by simp only [ct39, altSel, h0, if_true, List.getElem?_cons_zero], keep39 (fun _ _ _ => rfl) rfl rfl⟩
      · intro hf
        have h0 := hf (SB.lt (.v 1) (.v 6), false) (by simp)
        simp only [lt_f, d_v] at h0
        refine ⟨⟨_, rfl, .inl ⟨rfl, rfl⟩⟩, fun o => ⟨⟨n, (Sm.refl 20 E).put _ o, ?_, by omega, fun h => by omega, by omega⟩, fun b hb => by cases hb⟩⟩
        show E.i 0 - 1 = _
        omega
  · intro kk t ht
    have hk : kk = 0 := by
      have := (List.getElem?_eq_some_iff.1 ht).1
      simp [pts39] at this; omega
    subst hk
    refine ⟨h39tp0ls, by rw [← ptD_some ht (ct39 laT an3).g]; exact h39tp0run, fun E0 E hE0 hE hF0 ⟨k, hI⟩ => ?_⟩
    obtain ⟨n, hn, hn60, p0, p1, hr⟩ := pre50 (la := laN) (ex := an2) hE0 hF0
    have hnt : (E0.i 0).toNat = n := by omega
    rw [hnt] at hI
    obtain ⟨hS, h20, hkn, hup, hdb⟩ := hI
    have dM := mem_den hE0 hn
    have q0 := hS.i 0 (by decide); have q1 := hS.i 1 (by decide); have q6 := hS.i 6 (by decide)
    have qa : E.a 0 = E0.a 0 := by rw [hS.a]
    have hnE : E.i 0 = n := q0.trans hn
    refine ⟨?_, fun x hx => ?_⟩
    · obtain rfl := Option.some.inj ht
      show Facts E ([((.le (.c 0) (.v 0)), true), ((.le (.v 0) (.c 60)), true), ((.le (.c 0) (.v 1)), true), ((.le (.v 1) (.c 400)), true), ((rgF (.v 0) (.v 0)).1, true), ((.le (.c (-1)) (.v 20)), true), ((.le (.v 20) (.c 59)), true), ((.lt (.v 20) (.v 0)), true), ((.lt (.v 1) (.v 6)), false)])
      have hsr : (rgF (.v 0) (.v 0)).1.den E = true := of_rg hE (.v 0) (.v 0) (by
        show Rg (fun j => E.a 0 j) (E.i 0).toNat
        rw [hnE, Int.toNat_natCast, qa]; exact hr)
      simp only [facts_cons, facts_nil, le_t, lt_t, lt_f, d_c, d_v, d_add, and_true]
      refine ⟨by omega, by omega, by omega, by omega, hsr, by omega, by omega, by omega, by omega⟩
    · unfold h39tp0ls at hx
      simp only [List.mem_cons, List.not_mem_nil, or_false] at hx
      have hal : altSel E0 (ct39 laT an3).alts = (ct39 laT an3).alts[1]? := by
        have h0 : (SB.lt (.v 1) (.v 6)).den E0 = false := by simp only [lt_f, d_v]; omega
        simp only [ct39, altSel, h0, Bool.false_eq_true, if_false, List.getElem?_cons_succ, List.getElem?_cons_zero]
        rfl
      have fin : ∀ B : SB, B.den E = (open Classical in decide (Mem (E0.a 0) n (E0.i 1))) → ∀ q ∈ (.b B (.ap 6 (.a (.v 0) (.i (.v 0) (.i (.v 1) .nil)))) :: [.i (.v 31) (.v 31), .i (.v 32) (.v 32), .i (.v 33) (.v 33), .i (.v 6) (.v 6), .b (.v 0) (.v 0), .i (.v 34) (.v 34), .i (.v 35) (.v 35), .i (.v 36) (.v 36), .b (.v 1) (.v 1), .i (.v 37) (.v 37), .i (.v 38) (.v 38), .i (.v 39) (.v 39), .a (.v 0) (.v 0) (.v 0) 2, .i (.v 0) (.v 0)] : List Eqn), q.ok E E0 := fun B hB => by
        rw [List.forall_mem_cons]
        exact ⟨hB.trans dM.symm, keep39 (fun k h1 _ => hS.i k h1) hS.b hS.a⟩
      have h20n : k = 0 ∨ ∃ i, k = i + 1 ∧ i < n ∧ E.i 20 = i ∧ h39tp0e2.den E = E0.a 0 (i * 2 + 1) ∧ h39tp0e3.den E = E0.a 0 (i * 2) := by
        rcases Nat.eq_zero_or_pos k with h | h
        · exact .inl h
        · refine .inr ⟨k - 1, by omega, by omega, by omega, ?_, ?_⟩
          · show E.a 0 (E.i 20 * 2 + 1).toNat = _
            rw [qa, show (E.i 20 * 2 + 1).toNat = (k - 1) * 2 + 1 by omega]
          · show E.a 0 (E.i 20 * 2).toNat = _
            rw [qa, show (E.i 20 * 2).toNat = (k - 1) * 2 by omega]
      have D4 : h39tp0e4.den E = E.i 20 - 1 := rfl
      have hno : (0 < k → E0.a 0 ((k - 1) * 2 + 1) < E0.i 1) → false = (open Classical in decide (Mem (E0.a 0) n (E0.i 1))) := fun h => by
        have := mem_no hr hkn hup h
        simp [this]
      rcases hx with rfl | rfl | rfl | rfl | rfl
      · intro hf
        rcases h20n with rfl | ⟨i, rfl, hi, hi20, e2, e3⟩
        · have := hf (SB.le (.c 0) (.v 20), true) (by simp)
          simp only [le_t, d_c, d_v] at this; omega
        · have h1 := hf (SB.lt h39tp0e2 (.v 1), true) (by simp)
          simp only [lt_t, d_v, e2, q1] at h1
          exact ⟨hal, fin _ (hno fun _ => by simpa using h1)⟩
      · intro hf
        rcases h20n with rfl | ⟨i, rfl, hi, hi20, e2, e3⟩
        · have := hf (SB.le (.c 0) (.v 20), true) (by simp)
          simp only [le_t, d_c, d_v] at this; omega
        · have h1 := hf (SB.le h39tp0e3 (.v 1), true) (by simp)
          have h2 := hf (SB.le (.v 1) h39tp0e2, true) (by simp)
          simp only [le_t, d_v, e2, e3, q1] at h1 h2
          have hm : Mem (E0.a 0) n (E0.i 1) := ⟨i, hi, h1, h2⟩
          exact ⟨hal, fin _ (by simp [hm, SB.den])⟩
      · intro hf
        rcases h20n with rfl | ⟨i, rfl, hi, hi20, e2, e3⟩
        · have := hf (SB.le (.c 0) (.v 20), true) (by simp)
          simp only [le_t, d_c, d_v] at this; omega
        · have h1 := hf (SB.le h39tp0e3 (.v 1), false) (by simp)
          simp only [le_f, d_v, e3, q1] at h1
          refine ⟨⟨_, rfl, .inr ⟨rfl, rfl⟩⟩, fun o => ⟨⟨i, hS.put _ o, ?_, by omega, fun _ => h1, hdb⟩, fun b hb => ?_⟩⟩
          · show E.i 20 - 1 = _
            omega
          · obtain rfl := Option.some.inj hb
            show (E.i 20 - 1 + 1).toNat < (E.i 20 + 1).toNat
            omega
      · intro hf
        have h1 := hf (SB.le (.v 1) h39tp0e2, false) (by simp)
        have h2 := hf (SB.lt h39tp0e2 (.v 1), false) (by simp)
        simp only [le_f, lt_f, d_v] at h1 h2
        omega
      · intro hf
        have h1 := hf (SB.le (.c 0) (.v 20), false) (by simp)
        simp only [le_f, d_v, d_c] at h1
        exact ⟨hal, fin _ (hno fun h => by omega)⟩
theorem ct40t_ok : CtOk Try.prog fns (ct40 laT an3) := by
  refine ct_of_pts (p := prm40 Try.prog laT an3) (pts := []) (n := 900) (c0 := enterD (prm40 Try.prog laT an3) (ct40 laT an3)) (fun E hE => prm40t_ok E hE) rfl (by intro q hq; cases hq) Try.func40 (by kernel_rfl) (by intro t ht; cases ht) (fun _ _ _ => True) (fun _ _ _ => 0) h40tals (by kernel_rfl) ?_ (by intro i t ht; cases ht)
  intro E hE hF
  obtain ⟨n, hn, hn60, p0, p1, hr⟩ := pre50 (la := laN) (ex := an2) hE (fun q hq => hF q (by
    have hq' : q ∈ (bd (.v 0) 0 60 ++ bd (.v 1) 0 400) ++ [rgF (.v 0) (.v 0)] := hq
    rcases List.mem_append.1 hq' with h | h
    · exact List.mem_append_left _ h
    · exact List.mem_append_right _ (by simp at h ⊢; exact .inl h)))
  have hnt : (E.i 0).toNat = n := by omega
  obtain ⟨dB, dN, dA, dK⟩ := add_den hE hn
  obtain ⟨k1, k2, k3, k4⟩ := add_ok (p := E.i 1) hr p0 (by omega)
  have e1 : h40tae1.den E = _ := dN
  refine ⟨fun a ha => ?_, fun x hx => ?_⟩
  · obtain rfl := Option.some.inj ha; exact ad_facts hE hn p0 (by omega) hr
  · unfold h40tals at hx
    simp only [List.mem_cons, List.not_mem_nil, or_false] at hx
    rcases hx with rfl | rfl | rfl | rfl
    · intro hf
      have h1 := hf (SB.lt (.c 64) h40tae1, true) (by simp)
      simp only [lt_t, d_c, e1] at h1
      omega
    · intro hf
      have h1 := hf (SB.lt (.c 64) h40tae1, true) (by simp)
      simp only [lt_t, d_c, e1] at h1
      omega
    · intro hf
      have h1 := hf (SB.lt (.c 64) h40tae1, true) (by simp)
      simp only [lt_t, d_c, e1] at h1
      omega
    · intro hf
      have hM := hF (memB (.v 0) (.v 0) (.v 1), false) (by simp [ct40])
      have hM2 : (SB.ap 6 (.a (.v 0) (.i (.v 0) (.i (.v 1) .nil)))).den E = false := hM
      have hnm := mem_f hE hn hM2
      have hB : (b3 3 (.v 0) (.v 0) (.v 1)).den E = true := by rw [dB]; exact k3.2 hnm
      refine ⟨rfl, ?_⟩
      simp only [List.forall_mem_cons, List.not_mem_nil, false_imp_iff, implies_true, and_true, true_and, Eqn.ok]
      exact hB
theorem ct61t_ok : CtOk Try.prog fns (ct61 laT an3) := by
  refine ct_of_pts (p := prm61 Try.prog) (pts := pts61 Try.prog laT an3) (n := 900) (c0 := enterD (prm61 Try.prog) (ct61 laT an3)) (fun E hE => prm61_ok E hE) rfl (by intro q hq; cases hq) Try.func61 (by kernel_rfl) ?_ (fun E0 _ E => ∃ k, I61 (E0.i 0).toNat E0 E k) (fun E0 _ E => (E.i 20 + 1).toNat) h61tals (by kernel_rfl) ?_ ?_
  · intro t ht
    simp only [pts61, List.mem_cons, List.not_mem_nil, or_false] at ht
    subst ht
    exact ⟨by kernel_rfl, by decide⟩
  · intro E hE hF
    obtain ⟨n, hn, hn1, hn60, ⟨p0, p1⟩, ⟨d0, d1⟩, hr⟩ := pre61 hE hF
    have hnt : (E.i 0).toNat = n := by omega
    have dH : h61tae5.den E = _ := hm_den hE hn
    have D3 : h61tae3.den E = E.a 0 ((n - 1) * 2 + 1) := by
      show E.a 0 ((E.i 0 - 1) * 2 + 1).toNat = _
      rw [show ((E.i 0 - 1) * 2 + 1).toNat = (n - 1) * 2 + 1 by omega]
    have D0 : h61tae0.den E = (n : Int) - 1 := by show E.i 0 - 1 = _; rw [hn]
    have hb := rg_at hr ((n - 1) * 2 + 1) (by omega)
    refine ⟨fun a ha => ?_, fun x hx => ?_⟩
    · obtain rfl := Option.some.inj ha; intro q hq; cases hq
    · unfold h61tals at hx
      simp only [List.mem_cons, List.not_mem_nil, or_false] at hx
      have go : ¬ (E.i 6 ≠ -1 ∧ E.i 1 < E.i 6) → ∀ o, I61 (E.i 0).toNat E (E.put [(20, h61tae0), (21, h61tae4)] [] [] o) n := fun hd o => by
        rw [hnt]
        refine ⟨⟨fun k h1 h2 => ?_, rfl, rfl⟩, D0, ?_, Nat.le_refl _, hd, rfl⟩
        · show (match fnd k [(20, h61tae0), (21, h61tae4)] with | some e => e.den E | none => E.i k) = _
          simp only [fnd, if_neg (Ne.symm h1), if_neg (Ne.symm h2)]
        · show h61tae4.den E = _
          rw [show h61tae4.den E = imn (h61tae3.den E) (E.i 1) from rfl, D3]
          unfold imn; split <;> omega
      have SIMP0 : True := trivial
      rcases hx with rfl | rfl | rfl | rfl | rfl | rfl | rfl | rfl | rfl
      · intro hf
        have h1 := hf (SB.eq (.v 6) (.c (-1)), true) (by simp)
        simp only [eq_t, d_v, d_c] at h1
        exact ⟨⟨_, rfl, .inl ⟨rfl, rfl⟩⟩, fun o => ⟨⟨n, go (by omega) o⟩, fun b hb => by cases hb⟩⟩
      · intro hf
        have h1 := hf (SB.lt h61tae0 (.v 0), false) (by simp)
        simp only [lt_f, d_v, D0, hn] at h1; omega
      · intro hf
        have h1 := hf (SB.le h61tae3 (.c 1000), false) (by simp)
        simp only [le_f, d_v, d_c, D3] at h1; omega
      · intro hf
        have h1 := hf (SB.le (.c 0) h61tae3, false) (by simp)
        simp only [le_f, d_v, d_c, D3] at h1; omega
      · intro hf
        have h1 := hf (SB.eq (.v 6) (.c (-1)), false) (by simp)
        have h2 := hf (SB.lt (.v 1) (.v 6), true) (by simp)
        simp only [eq_f, lt_t, d_v, d_c] at h1 h2
        refine ⟨rfl, ?_⟩
        rw [List.forall_mem_cons]
        refine ⟨?_, keep39 (fun _ _ _ => rfl) rfl rfl⟩
        show (-1 : Int) = _
        rw [dH]; unfold hm
        rw [if_pos (.inr ⟨h1, h2⟩)]
      · intro hf
        have h1 := hf (SB.lt (.v 1) (.v 6), false) (by simp)
        simp only [lt_f, d_v, d_c] at h1
        exact ⟨⟨_, rfl, .inl ⟨rfl, rfl⟩⟩, fun o => ⟨⟨n, go (by omega) o⟩, fun b hb => by cases hb⟩⟩
      · intro hf
        have h1 := hf (SB.lt h61tae0 (.v 0), false) (by simp)
        simp only [lt_f, d_v, D0, hn] at h1; omega
      · intro hf
        have h1 := hf (SB.le h61tae3 (.c 1000), false) (by simp)
        simp only [le_f, d_v, d_c, D3] at h1; omega
      · intro hf
        have h1 := hf (SB.le (.c 0) h61tae3, false) (by simp)
        simp only [le_f, d_v, d_c, D3] at h1; omega
  · intro kk t ht
    have hk : kk = 0 := by
      have := (List.getElem?_eq_some_iff.1 ht).1
      simp [pts61] at this; omega
    subst hk
    refine ⟨h61tp0ls, by rw [← ptD_some ht (ct61 laT an3).g]; exact h61tp0run, fun E0 E hE0 hE hF0 ⟨k, hI⟩ => ?_⟩
    obtain ⟨n, hn, hn1, hn60, ⟨p0, p1⟩, ⟨d0, d1⟩, hr⟩ := pre61 hE0 hF0
    have hnt : (E0.i 0).toNat = n := by omega
    rw [hnt] at hI
    obtain ⟨hS, h20, h21, hkn, hdb, heq⟩ := hI
    have dH : h61tp0e3.den E0 = _ := hm_den hE0 hn
    have q0 := hS.i 0 (by decide) (by decide); have q1 := hS.i 1 (by decide) (by decide); have q6 := hS.i 6 (by decide) (by decide)
    have qa : E.a 0 = E0.a 0 := by rw [hS.a]
    have hnE : E.i 0 = n := q0.trans hn
    have hbn := rg_at hr ((n - 1) * 2 + 1) (by omega)
    have hmv : hm (E0.a 0) n (E0.i 1) (E0.i 6) = hmR (E0.a 0) (E.i 21) (E0.i 6) k := by
      rw [← heq, h21]; unfold hm
      rw [if_neg (fun h => h.elim (fun h => by omega) hdb)]
    refine ⟨?_, fun x hx => ?_⟩
    · obtain rfl := Option.some.inj ht
      show Facts E ([((.le (.c 1) (.v 0)), true), ((.le (.v 0) (.c 61)), true), ((.le (.c (-1)) (.v 1)), true), ((.le (.v 1) (.c 400)), true), ((.le (.c (-1)) (.v 6)), true), ((.le (.v 6) (.c 1000)), true), ((rgF (.v 0) (.v 0)).1, true), ((.le (.c (-1)) (.v 20)), true), ((.le (.v 20) (.c 60)), true), ((.lt (.v 20) (.v 0)), true), ((.le (.c (-1)) (.v 21)), true), ((.le (.v 21) (.c 1000)), true)])
      have hsr : (rgF (.v 0) (.v 0)).1.den E = true := of_rg hE (.v 0) (.v 0) (by
        show Rg (fun j => E.a 0 j) (E.i 0).toNat
        rw [hnE, Int.toNat_natCast, qa]; exact hr)
      simp only [facts_cons, facts_nil, le_t, lt_t, lt_f, d_c, d_v, d_add, and_true]
      refine ⟨by omega, by omega, by omega, by omega, by omega, by omega, hsr, by omega, by omega, by omega, by omega, by omega⟩
    · unfold h61tp0ls at hx
      simp only [List.mem_cons, List.not_mem_nil, or_false] at hx
      have fin : ∀ X : SE, X.den E = hmR (E0.a 0) (E.i 21) (E0.i 6) k → ∀ q ∈ (.i X h61tp0e3 :: [.i (.v 31) (.v 31), .i (.v 32) (.v 32), .i (.v 33) (.v 33), .i (.v 6) (.v 6), .b (.v 0) (.v 0), .i (.v 34) (.v 34), .i (.v 35) (.v 35), .i (.v 36) (.v 36), .b (.v 1) (.v 1), .i (.v 37) (.v 37), .i (.v 38) (.v 38), .i (.v 39) (.v 39), .a (.v 0) (.v 0) (.v 0) 2, .i (.v 0) (.v 0)] : List Eqn), q.ok E E0 := fun B hB => by
        rw [List.forall_mem_cons]
        exact ⟨by show _ = h61tp0e3.den E0; rw [hB, dH, hmv], keep39 (fun k h1 h2 => hS.i k h1 h2) hS.b hS.a⟩
      have nxt : ∀ i, k = i + 1 → hmR (E0.a 0) (E.i 21) (E0.i 6) (i + 1) = hmR (E0.a 0) (E.i 21) (E0.i 6) i → ∀ o, I61 n E0 (E.put [(20, h61tp0e6)] [] [] o) i := fun i hi he o => by
        refine ⟨⟨fun m h1 h2 => ?_, hS.b, hS.a⟩, ?_, h21, by omega, hdb, ?_⟩
        · show (match fnd m [(20, h61tp0e6)] with | some e => e.den E | none => E.i m) = _
          simp only [fnd, if_neg (Ne.symm h1)]; exact hS.i m h1 h2
        · show E.i 20 - 1 = _
          omega
        · show hmR (E0.a 0) (E.i 21) (E0.i 6) n = hmR (E0.a 0) (E.i 21) (E0.i 6) i
          rw [heq, hi, he]
      rcases Nat.eq_zero_or_pos k with hk0 | hk0
      · subst hk0
        have dead : ∀ F : Fx, ((.le (.c 0) (.v 20) : SB), true) ∈ F → ¬ Facts E F := fun F hm hf => by
          have := hf _ hm
          simp only [le_t, d_v, d_c] at this
          omega
        rcases hx with rfl | rfl | rfl | rfl | rfl | rfl | rfl | rfl | rfl | rfl | rfl | rfl | rfl | rfl | rfl | rfl
        · intro hf
          exact absurd hf (dead _ (by simp))
        · intro hf
          exact absurd hf (dead _ (by simp))
        · intro hf
          exact absurd hf (dead _ (by simp))
        · intro hf
          exact absurd hf (dead _ (by simp))
        · intro hf
          exact absurd hf (dead _ (by simp))
        · intro hf
          exact absurd hf (dead _ (by simp))
        · intro hf
          exact absurd hf (dead _ (by simp))
        · intro hf
          exact absurd hf (dead _ (by simp))
        · intro hf
          exact absurd hf (dead _ (by simp))
        · intro hf
          exact absurd hf (dead _ (by simp))
        · intro hf
          exact absurd hf (dead _ (by simp))
        · intro hf
          exact absurd hf (dead _ (by simp))
        · intro hf
          exact absurd hf (dead _ (by simp))
        · intro hf
          exact absurd hf (dead _ (by simp))
        · intro hf
          exact absurd hf (dead _ (by simp))
        · intro hf
          exact ⟨rfl, fin _ rfl⟩
      · obtain ⟨i, rfl⟩ : ∃ i, k = i + 1 := ⟨k - 1, by omega⟩
        have hi : i < n := by omega
        have h20' : E.i 20 = (i : Int) := by rw [h20]; omega
        have D1 : h61tp0e1.den E = E0.a 0 (i * 2) := by
          show E.a 0 (E.i 20 * 2).toNat = _
          rw [qa, show (E.i 20 * 2).toNat = i * 2 by omega]
        have D2 : h61tp0e2.den E = E0.a 0 (i * 2) - 1 := by show h61tp0e1.den E - 1 = _; rw [D1]
        have D5 : h61tp0e5.den E = E0.a 0 (i * 2 + 1) := by
          show E.a 0 (E.i 20 * 2 + 1).toNat = _
          rw [qa, show (E.i 20 * 2 + 1).toNat = i * 2 + 1 by omega]
        have D6 : h61tp0e6.den E = (i : Int) - 1 := by show E.i 20 - 1 = _; rw [h20']
        have D9 : 1 ≤ i → h61tp0e9.den E = E0.a 0 ((i - 1) * 2 + 1) := fun h => by
          show E.a 0 ((E.i 20 - 1) * 2 + 1).toNat = _
          rw [qa, show ((E.i 20 - 1) * 2 + 1).toNat = (i - 1) * 2 + 1 by omega]
        have hb := rg_at hr (i * 2) (by omega)
        have mu : ∀ b, some ((E.i 20 + 1).toNat) = some b → (E.i 20 - 1 + 1).toNat < b := fun b hb => by
          obtain rfl := Option.some.inj hb; omega
        rcases hx with rfl | rfl | rfl | rfl | rfl | rfl | rfl | rfl | rfl | rfl | rfl | rfl | rfl | rfl | rfl | rfl
        · intro hf
          simp only [facts_cons, facts_nil, le_t, le_f, lt_t, lt_f, eq_t, eq_f, d_v, d_c, D1, D2, D5, D6, h20', hnE, q1, q6, and_true] at hf
          exact ⟨rfl, fin _ (by rw [D2]; simp only [hmR]; rw [if_pos (by omega), if_neg (by omega)])⟩
        · intro hf
          simp only [facts_cons, facts_nil, le_t, le_f, lt_t, lt_f, eq_t, eq_f, d_v, d_c, D1, D2, D5, D6, h20', hnE, q1, q6, and_true] at hf
          exact ⟨rfl, fin _ (by show (-1 : Int) = _; simp only [hmR]; rw [if_pos (by omega), if_pos (by omega)])⟩
        · intro hf
          simp only [facts_cons, facts_nil, le_t, le_f, lt_t, lt_f, eq_t, eq_f, d_v, d_c, D1, D2, D5, D6, h20', hnE, q1, q6, and_true] at hf
          exact ⟨rfl, fin _ (by rw [D2]; simp only [hmR]; rw [if_pos (by omega), if_neg (by omega)])⟩
        · intro hf
          simp only [facts_cons, facts_nil, le_t, le_f, lt_t, lt_f, eq_t, eq_f, d_v, d_c, D1, D2, D5, D6, h20', hnE, q1, q6, and_true] at hf
          omega
        · intro hf
          simp only [facts_cons, facts_nil, le_t, le_f, lt_t, lt_f, eq_t, eq_f, d_v, d_c, D1, D2, D5, D6, h20', hnE, q1, q6, and_true] at hf
          omega
        · intro hf
          simp only [facts_cons, facts_nil, le_t, le_f, lt_t, lt_f, eq_t, eq_f, d_v, d_c, D1, D2, D5, D6, h20', hnE, q1, q6, and_true] at hf
          have h9 := D9 (by omega)
          rw [h9] at hf
          exact ⟨rfl, fin _ (by show E.i 21 = _; simp only [hmR]; rw [if_neg (by omega), if_pos (by omega)])⟩
        · intro hf
          simp only [facts_cons, facts_nil, le_t, le_f, lt_t, lt_f, eq_t, eq_f, d_v, d_c, D1, D2, D5, D6, h20', hnE, q1, q6, and_true] at hf
          have h9 := D9 (by omega)
          rw [h9] at hf
          exact ⟨⟨_, rfl, .inr ⟨rfl, rfl⟩⟩, fun o => ⟨⟨i, by rw [hnt]; exact nxt i rfl (by simp only [hmR]; rw [if_neg (by omega), if_neg (by omega)]) o⟩, mu⟩⟩
        · intro hf
          simp only [facts_cons, facts_nil, le_t, le_f, lt_t, lt_f, eq_t, eq_f, d_v, d_c, D1, D2, D5, D6, h20', hnE, q1, q6, and_true] at hf
          have h9 := D9 (by omega)
          rw [h9] at hf
          exact ⟨⟨_, rfl, .inr ⟨rfl, rfl⟩⟩, fun o => ⟨⟨i, by rw [hnt]; exact nxt i rfl (by simp only [hmR]; rw [if_neg (by omega), if_neg (by omega)]) o⟩, mu⟩⟩
        · intro hf
          simp only [facts_cons, facts_nil, le_t, le_f, lt_t, lt_f, eq_t, eq_f, d_v, d_c, D1, D2, D5, D6, h20', hnE, q1, q6, and_true] at hf
          omega
        · intro hf
          simp only [facts_cons, facts_nil, le_t, le_f, lt_t, lt_f, eq_t, eq_f, d_v, d_c, D1, D2, D5, D6, h20', hnE, q1, q6, and_true] at hf
          exact ⟨⟨_, rfl, .inr ⟨rfl, rfl⟩⟩, fun o => ⟨⟨i, by rw [hnt]; exact nxt i rfl (by simp only [hmR]; rw [if_neg (by omega), if_neg (by omega)]) o⟩, mu⟩⟩
        · intro hf
          simp only [facts_cons, facts_nil, le_t, le_f, lt_t, lt_f, eq_t, eq_f, d_v, d_c, D1, D2, D5, D6, h20', hnE, q1, q6, and_true] at hf
          have h9 := D9 (by omega)
          rw [h9] at hf
          exact ⟨rfl, fin _ (by show E.i 21 = _; simp only [hmR]; rw [if_neg (by omega), if_pos (by omega)])⟩
        · intro hf
          simp only [facts_cons, facts_nil, le_t, le_f, lt_t, lt_f, eq_t, eq_f, d_v, d_c, D1, D2, D5, D6, h20', hnE, q1, q6, and_true] at hf
          have h9 := D9 (by omega)
          rw [h9] at hf
          exact ⟨⟨_, rfl, .inr ⟨rfl, rfl⟩⟩, fun o => ⟨⟨i, by rw [hnt]; exact nxt i rfl (by simp only [hmR]; rw [if_neg (by omega), if_neg (by omega)]) o⟩, mu⟩⟩
        · intro hf
          simp only [facts_cons, facts_nil, le_t, le_f, lt_t, lt_f, eq_t, eq_f, d_v, d_c, D1, D2, D5, D6, h20', hnE, q1, q6, and_true] at hf
          have h9 := D9 (by omega)
          rw [h9] at hf
          exact ⟨⟨_, rfl, .inr ⟨rfl, rfl⟩⟩, fun o => ⟨⟨i, by rw [hnt]; exact nxt i rfl (by simp only [hmR]; rw [if_neg (by omega), if_neg (by omega)]) o⟩, mu⟩⟩
        · intro hf
          simp only [facts_cons, facts_nil, le_t, le_f, lt_t, lt_f, eq_t, eq_f, d_v, d_c, D1, D2, D5, D6, h20', hnE, q1, q6, and_true] at hf
          omega
        · intro hf
          simp only [facts_cons, facts_nil, le_t, le_f, lt_t, lt_f, eq_t, eq_f, d_v, d_c, D1, D2, D5, D6, h20', hnE, q1, q6, and_true] at hf
          exact ⟨⟨_, rfl, .inr ⟨rfl, rfl⟩⟩, fun o => ⟨⟨i, by rw [hnt]; exact nxt i rfl (by simp only [hmR]; rw [if_neg (by omega), if_neg (by omega)]) o⟩, mu⟩⟩
        · intro hf
          simp only [facts_cons, facts_nil, le_t, le_f, lt_t, lt_f, eq_t, eq_f, d_v, d_c, D1, D2, D5, D6, h20', hnE, q1, q6, and_true] at hf
          omega
end Go.Proofs.Ytgianhjmjiiadaa
