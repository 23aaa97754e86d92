/- DeleteBelow keeps its contracts. -/
import Derived.Test.YtgianhjmjiiadaaQmQ
import Derived.KernelRfl
set_option autoImplicit true
set_option relaxedAutoImplicit true
set_option linter.unusedVariables false
set_option linter.unusedSimpArgs false
set_option maxRecDepth 100000
set_option maxHeartbeats 4000000
namespace Go.Proofs.Ytgianhjmjiiadaa
open Go Go.Sy Go.RowKit
noncomputable def h49nae0 : AE := .ap 5 (.a (.v 0) (.i (.v 0) (.i (.v 1) .nil)))
noncomputable def h49nae1 : SE := .ap 4 (.a (.v 0) (.i (.v 0) (.i (.v 1) .nil)))
noncomputable def h49naf0 : Fx := [((.le (.c 0) (.v 0)), true), ((.le (.v 0) (.c 61)), true), ((.le (.c 0) (.v 1)), true), ((.le (.v 1) (.c 400)), true), ((.ap 1 (.a (.v 0) (.i (.v 0) .nil))), true), ((.lt (.v 1) (.v 6)), false)]
noncomputable def h49nax0 : Vl := .out 0 [.i (.v 31) (.v 31), .i (.v 32) (.v 32), .i (.v 33) (.v 33), .i (.v 1) (.v 1), .b (.v 0) (.v 0), .i (.v 34) (.v 34), .i (.v 35) (.v 35), .i (.v 36) (.v 36), .b (.v 1) (.v 1), .i (.v 37) (.v 37), .i (.v 38) (.v 38), .i (.v 39) (.v 39), .a (.v 0) h49nae0 h49nae1 2, .i (.v 0) h49nae1] (((.eq (.v 0) (.c 0)), true) :: h49naf0)
noncomputable def h49nax1 : Vl := .go 0 [(20, (.c 0)), (21, (.c (-1)))] [] [] (((.eq (.v 0) (.c 0)), false) :: h49naf0) (.code (.loop (loopB (prm49 Try.prog).P 49 5))) (loopK (prm49 Try.prog).P 49 5)
noncomputable def h49nals : List Vl := [h49nax0, h49nax1]
noncomputable def h49np0e0 : SE := .add (.v 20) (.c 1)
noncomputable def h49np0e1 : SE := .mul (.v 20) (.c 2)
noncomputable def h49np0e2 : SE := .add h49np0e1 (.c 1)
noncomputable def h49np0e3 : SE := .rd (.v 0) h49np0e2
noncomputable def h49np0e4 : AE := .up (.v 0) h49np0e1 (.v 1)
noncomputable def h49np0e5 : SE := .add (.v 21) (.c 1)
noncomputable def h49np0e6 : AE := .ap 4 (.a h49np0e4 (.i (.c 0) (.i h49np0e5 .nil)))
noncomputable def h49np0e7 : AE := .ap 5 (.a (.v 0) (.i (.v 0) (.i (.v 1) .nil)))
noncomputable def h49np0e8 : SE := .ap 4 (.a (.v 0) (.i (.v 0) (.i (.v 1) .nil)))
noncomputable def h49np0e9 : SE := .sub (.v 0) h49np0e5
noncomputable def h49np0e10 : SE := .rd (.v 0) h49np0e1
noncomputable def h49np0e11 : AE := .ap 4 (.a (.v 0) (.i (.c 0) (.i h49np0e5 .nil)))
noncomputable def h49np0f0 : Fx := [((.le (.c 0) (.v 0)), true), ((.le (.v 0) (.c 61)), true), ((.le (.c 0) (.v 1)), true), ((.le (.v 1) (.c 400)), true), ((.ap 1 (.a (.v 0) (.i (.v 0) .nil))), true), ((.lt (.v 1) (.v 6)), false), ((.le (.c 0) (.v 20)), true), ((.le (.v 20) (.c 61)), true), ((.le (.c (-1)) (.v 21)), true), ((.le (.v 21) (.c 60)), true), ((.le (.c 1) (.v 0)), true), ((.le (.v 20) (.v 0)), true), ((.lt (.v 21) (.v 20)), true)]
noncomputable def h49np0f1 : Fx := ((.lt h49np0e3 (.v 1)), false) :: ((.lt (.v 20) (.v 0)), true) :: h49np0f0
noncomputable def h49np0f2 : Fx := ((.le (.v 1) h49np0e3), true) :: ((.lt h49np0e10 (.v 1)), true) :: h49np0f1
noncomputable def h49np0f3 : Fx := ((.le (.v 1) h49np0e3), false) :: ((.lt h49np0e10 (.v 1)), true) :: h49np0f1
noncomputable def h49np0f4 : Fx := ((.le (.c 0) (.v 21)), true) :: ((.lt h49np0e10 (.v 1)), false) :: h49np0f1
noncomputable def h49np0f5 : Fx := ((.le (.c 0) (.v 21)), true) :: ((.lt (.v 20) (.v 0)), false) :: h49np0f0
noncomputable def h49np0x0 : Vl := .go 0 [(20, h49np0e0), (21, (.v 20))] [] [] (((.lt h49np0e3 (.v 1)), true) :: ((.lt (.v 20) (.v 0)), true) :: h49np0f0) (.exit .normal) (.loop (loopB (prm49 Try.prog).P 49 5) :: loopK (prm49 Try.prog).P 49 5)
noncomputable def h49np0x1 : Vl := .out 0 [.i (.v 31) (.v 31), .i (.v 32) (.v 32), .i (.v 33) (.v 33), .i (.v 1) (.v 1), .b (.v 0) (.v 0), .i (.v 34) (.v 34), .i (.v 35) (.v 35), .i (.v 36) (.v 36), .b (.v 1) (.v 1), .i (.v 37) (.v 37), .i (.v 38) (.v 38), .i (.v 39) (.v 39), .a h49np0e6 h49np0e7 h49np0e8 2, .i h49np0e9 h49np0e8] (((.le h49np0e5 (.v 0)), true) :: ((.le (.c 0) (.v 21)), true) :: h49np0f2)
noncomputable def h49np0x2 : Vl := .dead (((.le h49np0e5 (.v 0)), false) :: ((.le (.c 0) (.v 21)), true) :: h49np0f2)
noncomputable def h49np0x3 : Vl := .out 0 [.i (.v 31) (.v 31), .i (.v 32) (.v 32), .i (.v 33) (.v 33), .i (.v 1) (.v 1), .b (.v 0) (.v 0), .i (.v 34) (.v 34), .i (.v 35) (.v 35), .i (.v 36) (.v 36), .b (.v 1) (.v 1), .i (.v 37) (.v 37), .i (.v 38) (.v 38), .i (.v 39) (.v 39), .a h49np0e4 h49np0e7 h49np0e8 2, .i (.v 0) h49np0e8] (((.le (.c 0) (.v 21)), false) :: h49np0f2)
noncomputable def h49np0x4 : Vl := .out 0 [.i (.v 31) (.v 31), .i (.v 32) (.v 32), .i (.v 33) (.v 33), .i (.v 1) (.v 1), .b (.v 0) (.v 0), .i (.v 34) (.v 34), .i (.v 35) (.v 35), .i (.v 36) (.v 36), .b (.v 1) (.v 1), .i (.v 37) (.v 37), .i (.v 38) (.v 38), .i (.v 39) (.v 39), .a h49np0e11 h49np0e7 h49np0e8 2, .i h49np0e9 h49np0e8] (((.le h49np0e5 (.v 0)), true) :: ((.le (.c 0) (.v 21)), true) :: h49np0f3)
noncomputable def h49np0x5 : Vl := .dead (((.le h49np0e5 (.v 0)), false) :: ((.le (.c 0) (.v 21)), true) :: h49np0f3)
noncomputable def h49np0x6 : Vl := .out 0 [.i (.v 31) (.v 31), .i (.v 32) (.v 32), .i (.v 33) (.v 33), .i (.v 1) (.v 1), .b (.v 0) (.v 0), .i (.v 34) (.v 34), .i (.v 35) (.v 35), .i (.v 36) (.v 36), .b (.v 1) (.v 1), .i (.v 37) (.v 37), .i (.v 38) (.v 38), .i (.v 39) (.v 39), .a (.v 0) h49np0e7 h49np0e8 2, .i (.v 0) h49np0e8] (((.le (.c 0) (.v 21)), false) :: h49np0f3)
noncomputable def h49np0x7 : Vl := .out 0 [.i (.v 31) (.v 31), .i (.v 32) (.v 32), .i (.v 33) (.v 33), .i (.v 1) (.v 1), .b (.v 0) (.v 0), .i (.v 34) (.v 34), .i (.v 35) (.v 35), .i (.v 36) (.v 36), .b (.v 1) (.v 1), .i (.v 37) (.v 37), .i (.v 38) (.v 38), .i (.v 39) (.v 39), .a h49np0e11 h49np0e7 h49np0e8 2, .i h49np0e9 h49np0e8] (((.le h49np0e5 (.v 0)), true) :: h49np0f4)
noncomputable def h49np0x8 : Vl := .dead (((.le h49np0e5 (.v 0)), false) :: h49np0f4)
noncomputable def h49np0x9 : Vl := .out 0 [.i (.v 31) (.v 31), .i (.v 32) (.v 32), .i (.v 33) (.v 33), .i (.v 1) (.v 1), .b (.v 0) (.v 0), .i (.v 34) (.v 34), .i (.v 35) (.v 35), .i (.v 36) (.v 36), .b (.v 1) (.v 1), .i (.v 37) (.v 37), .i (.v 38) (.v 38), .i (.v 39) (.v 39), .a (.v 0) h49np0e7 h49np0e8 2, .i (.v 0) h49np0e8] (((.le (.c 0) (.v 21)), false) :: ((.lt h49np0e10 (.v 1)), false) :: h49np0f1)
noncomputable def h49np0x10 : Vl := .out 0 [.i (.v 31) (.v 31), .i (.v 32) (.v 32), .i (.v 33) (.v 33), .i (.v 1) (.v 1), .b (.v 0) (.v 0), .i (.v 34) (.v 34), .i (.v 35) (.v 35), .i (.v 36) (.v 36), .b (.v 1) (.v 1), .i (.v 37) (.v 37), .i (.v 38) (.v 38), .i (.v 39) (.v 39), .a h49np0e11 h49np0e7 h49np0e8 2, .i h49np0e9 h49np0e8] (((.le h49np0e5 (.v 0)), true) :: h49np0f5)
noncomputable def h49np0x11 : Vl := .dead (((.le h49np0e5 (.v 0)), false) :: h49np0f5)
noncomputable def h49np0x12 : Vl := .out 0 [.i (.v 31) (.v 31), .i (.v 32) (.v 32), .i (.v 33) (.v 33), .i (.v 1) (.v 1), .b (.v 0) (.v 0), .i (.v 34) (.v 34), .i (.v 35) (.v 35), .i (.v 36) (.v 36), .b (.v 1) (.v 1), .i (.v 37) (.v 37), .i (.v 38) (.v 38), .i (.v 39) (.v 39), .a (.v 0) h49np0e7 h49np0e8 2, .i (.v 0) h49np0e8] (((.le (.c 0) (.v 21)), false) :: ((.lt (.v 20) (.v 0)), false) :: h49np0f0)
noncomputable def h49np0ls : List Vl := [h49np0x0, h49np0x1, h49np0x2, h49np0x3, h49np0x4, h49np0x5, h49np0x6, h49np0x7, h49np0x8, h49np0x9, h49np0x10, h49np0x11, h49np0x12]
theorem h49np0run : (run (prm49 Try.prog) 900 (ptD (pts49 Try.prog laN an2) 0 49)).map (vOf (prm49 Try.prog) (ct49 laN an2) (pts49 Try.prog laN an2)) = h49np0ls := by kernel_rfl
noncomputable def h49tae0 : AE := .ap 5 (.a (.v 0) (.i (.v 0) (.i (.v 1) .nil)))
noncomputable def h49tae1 : SE := .ap 4 (.a (.v 0) (.i (.v 0) (.i (.v 1) .nil)))
noncomputable def h49taf0 : Fx := [((.le (.c 0) (.v 0)), true), ((.le (.v 0) (.c 61)), true), ((.le (.c 0) (.v 1)), true), ((.le (.v 1) (.c 400)), true), ((.ap 1 (.a (.v 0) (.i (.v 0) .nil))), true), ((.lt (.v 1) (.v 6)), false)]
noncomputable def h49tax0 : Vl := .out 0 [.i (.v 31) (.v 31), .i (.v 32) (.v 32), .i (.v 33) (.v 33), .i (.v 1) (.v 1), .b (.v 0) (.v 0), .i (.v 34) (.v 34), .i (.v 35) (.v 35), .i (.v 36) (.v 36), .b (.v 1) (.v 1), .i (.v 37) (.v 37), .i (.v 38) (.v 38), .i (.v 39) (.v 39), .a (.v 0) h49tae0 h49tae1 2, .i (.v 0) h49tae1] (((.eq (.v 0) (.c 0)), true) :: h49taf0)
noncomputable def h49tax1 : Vl := .go 0 [(20, (.c 0)), (21, (.c (-1)))] [] [] (((.eq (.v 0) (.c 0)), false) :: h49taf0) (.code (.loop (loopB (prm49 Try.prog).P 49 5))) (loopK (prm49 Try.prog).P 49 5)
noncomputable def h49tals : List Vl := [h49tax0, h49tax1]
noncomputable def h49tp0e0 : SE := .add (.v 20) (.c 1)
noncomputable def h49tp0e1 : SE := .mul (.v 20) (.c 2)
noncomputable def h49tp0e2 : SE := .add h49tp0e1 (.c 1)
noncomputable def h49tp0e3 : SE := .rd (.v 0) h49tp0e2
noncomputable def h49tp0e4 : AE := .up (.v 0) h49tp0e1 (.v 1)
noncomputable def h49tp0e5 : SE := .add (.v 21) (.c 1)
noncomputable def h49tp0e6 : AE := .ap 4 (.a h49tp0e4 (.i (.c 0) (.i h49tp0e5 .nil)))
noncomputable def h49tp0e7 : AE := .ap 5 (.a (.v 0) (.i (.v 0) (.i (.v 1) .nil)))
noncomputable def h49tp0e8 : SE := .ap 4 (.a (.v 0) (.i (.v 0) (.i (.v 1) .nil)))
noncomputable def h49tp0e9 : SE := .sub (.v 0) h49tp0e5
noncomputable def h49tp0e10 : SE := .rd (.v 0) h49tp0e1
noncomputable def h49tp0e11 : AE := .ap 4 (.a (.v 0) (.i (.c 0) (.i h49tp0e5 .nil)))
noncomputable def h49tp0f0 : Fx := [((.le (.c 0) (.v 0)), true), ((.le (.v 0) (.c 61)), true), ((.le (.c 0) (.v 1)), true), ((.le (.v 1) (.c 400)), true), ((.ap 1 (.a (.v 0) (.i (.v 0) .nil))), true), ((.lt (.v 1) (.v 6)), false), ((.le (.c 0) (.v 20)), true), ((.le (.v 20) (.c 61)), true), ((.le (.c (-1)) (.v 21)), true), ((.le (.v 21) (.c 60)), true), ((.le (.c 1) (.v 0)), true), ((.le (.v 20) (.v 0)), true), ((.lt (.v 21) (.v 20)), true)]
noncomputable def h49tp0f1 : Fx := ((.lt h49tp0e3 (.v 1)), false) :: ((.lt (.v 20) (.v 0)), true) :: h49tp0f0
noncomputable def h49tp0f2 : Fx := ((.le (.v 1) h49tp0e3), true) :: ((.lt h49tp0e10 (.v 1)), true) :: h49tp0f1
noncomputable def h49tp0f3 : Fx := ((.le (.v 1) h49tp0e3), false) :: ((.lt h49tp0e10 (.v 1)), true) :: h49tp0f1
noncomputable def h49tp0f4 : Fx := ((.le (.c 0) (.v 21)), true) :: ((.lt h49tp0e10 (.v 1)), false) :: h49tp0f1
noncomputable def h49tp0f5 : Fx := ((.le (.c 0) (.v 21)), true) :: ((.lt (.v 20) (.v 0)), false) :: h49tp0f0
noncomputable def h49tp0x0 : Vl := .go 0 [(20, h49tp0e0), (21, (.v 20))] [] [] (((.lt h49tp0e3 (.v 1)), true) :: ((.lt (.v 20) (.v 0)), true) :: h49tp0f0) (.exit .normal) (.loop (loopB (prm49 Try.prog).P 49 5) :: loopK (prm49 Try.prog).P 49 5)
noncomputable def h49tp0x1 : Vl := .out 0 [.i (.v 31) (.v 31), .i (.v 32) (.v 32), .i (.v 33) (.v 33), .i (.v 1) (.v 1), .b (.v 0) (.v 0), .i (.v 34) (.v 34), .i (.v 35) (.v 35), .i (.v 36) (.v 36), .b (.v 1) (.v 1), .i (.v 37) (.v 37), .i (.v 38) (.v 38), .i (.v 39) (.v 39), .a h49tp0e6 h49tp0e7 h49tp0e8 2, .i h49tp0e9 h49tp0e8] (((.le h49tp0e5 (.v 0)), true) :: ((.le (.c 0) (.v 21)), true) :: h49tp0f2)
noncomputable def h49tp0x2 : Vl := .dead (((.le h49tp0e5 (.v 0)), false) :: ((.le (.c 0) (.v 21)), true) :: h49tp0f2)
noncomputable def h49tp0x3 : Vl := .out 0 [.i (.v 31) (.v 31), .i (.v 32) (.v 32), .i (.v 33) (.v 33), .i (.v 1) (.v 1), .b (.v 0) (.v 0), .i (.v 34) (.v 34), .i (.v 35) (.v 35), .i (.v 36) (.v 36), .b (.v 1) (.v 1), .i (.v 37) (.v 37), .i (.v 38) (.v 38), .i (.v 39) (.v 39), .a h49tp0e4 h49tp0e7 h49tp0e8 2, .i (.v 0) h49tp0e8] (((.le (.c 0) (.v 21)), false) :: h49tp0f2)
noncomputable def h49tp0x4 : Vl := .out 0 [.i (.v 31) (.v 31), .i (.v 32) (.v 32), .i (.v 33) (.v 33), .i (.v 1) (.v 1), .b (.v 0) (.v 0), .i (.v 34) (.v 34), .i (.v 35) (.v 35), .i (.v 36) (.v 36), .b (.v 1) (.v 1), .i (.v 37) (.v 37), .i (.v 38) (.v 38), .i (.v 39) (.v 39), .a h49tp0e11 h49tp0e7 h49tp0e8 2, .i h49tp0e9 h49tp0e8] (((.le h49tp0e5 (.v 0)), true) :: ((.le (.c 0) (.v 21)), true) :: h49tp0f3)
noncomputable def h49tp0x5 : Vl := .dead (((.le h49tp0e5 (.v 0)), false) :: ((.le (.c 0) (.v 21)), true) :: h49tp0f3)
noncomputable def h49tp0x6 : Vl := .out 0 [.i (.v 31) (.v 31), .i (.v 32) (.v 32), .i (.v 33) (.v 33), .i (.v 1) (.v 1), .b (.v 0) (.v 0), .i (.v 34) (.v 34), .i (.v 35) (.v 35), .i (.v 36) (.v 36), .b (.v 1) (.v 1), .i (.v 37) (.v 37), .i (.v 38) (.v 38), .i (.v 39) (.v 39), .a (.v 0) h49tp0e7 h49tp0e8 2, .i (.v 0) h49tp0e8] (((.le (.c 0) (.v 21)), false) :: h49tp0f3)
noncomputable def h49tp0x7 : Vl := .out 0 [.i (.v 31) (.v 31), .i (.v 32) (.v 32), .i (.v 33) (.v 33), .i (.v 1) (.v 1), .b (.v 0) (.v 0), .i (.v 34) (.v 34), .i (.v 35) (.v 35), .i (.v 36) (.v 36), .b (.v 1) (.v 1), .i (.v 37) (.v 37), .i (.v 38) (.v 38), .i (.v 39) (.v 39), .a h49tp0e11 h49tp0e7 h49tp0e8 2, .i h49tp0e9 h49tp0e8] (((.le h49tp0e5 (.v 0)), true) :: h49tp0f4)
noncomputable def h49tp0x8 : Vl := .dead (((.le h49tp0e5 (.v 0)), false) :: h49tp0f4)
noncomputable def h49tp0x9 : Vl := .out 0 [.i (.v 31) (.v 31), .i (.v 32) (.v 32), .i (.v 33) (.v 33), .i (.v 1) (.v 1), .b (.v 0) (.v 0), .i (.v 34) (.v 34), .i (.v 35) (.v 35), .i (.v 36) (.v 36), .b (.v 1) (.v 1), .i (.v 37) (.v 37), .i (.v 38) (.v 38), .i (.v 39) (.v 39), .a (.v 0) h49tp0e7 h49tp0e8 2, .i (.v 0) h49tp0e8] (((.le (.c 0) (.v 21)), false) :: ((.lt h49tp0e10 (.v 1)), false) :: h49tp0f1)
noncomputable def h49tp0x10 : Vl := .out 0 [.i (.v 31) (.v 31), .i (.v 32) (.v 32), .i (.v 33) (.v 33), .i (.v 1) (.v 1), .b (.v 0) (.v 0), .i (.v 34) (.v 34), .i (.v 35) (.v 35), .i (.v 36) (.v 36), .b (.v 1) (.v 1), .i (.v 37) (.v 37), .i (.v 38) (.v 38), .i (.v 39) (.v 39), .a h49tp0e11 h49tp0e7 h49tp0e8 2, .i h49tp0e9 h49tp0e8] (((.le h49tp0e5 (.v 0)), true) :: h49tp0f5)
noncomputable def h49tp0x11 : Vl := .dead (((.le h49tp0e5 (.v 0)), false) :: h49tp0f5)
noncomputable def h49tp0x12 : Vl := .out 0 [.i (.v 31) (.v 31), .i (.v 32) (.v 32), .i (.v 33) (.v 33), .i (.v 1) (.v 1), .b (.v 0) (.v 0), .i (.v 34) (.v 34), .i (.v 35) (.v 35), .i (.v 36) (.v 36), .b (.v 1) (.v 1), .i (.v 37) (.v 37), .i (.v 38) (.v 38), .i (.v 39) (.v 39), .a (.v 0) h49tp0e7 h49tp0e8 2, .i (.v 0) h49tp0e8] (((.le (.c 0) (.v 21)), false) :: ((.lt (.v 20) (.v 0)), false) :: h49tp0f0)
noncomputable def h49tp0ls : List Vl := [h49tp0x0, h49tp0x1, h49tp0x2, h49tp0x3, h49tp0x4, h49tp0x5, h49tp0x6, h49tp0x7, h49tp0x8, h49tp0x9, h49tp0x10, h49tp0x11, h49tp0x12]
theorem h49tp0run : (run (prm49 Try.prog) 900 (ptD (pts49 Try.prog laT an3) 0 49)).map (vOf (prm49 Try.prog) (ct49 laT an3) (pts49 Try.prog laT an3)) = h49tp0ls := by kernel_rfl
theorem prm49_ok (E : Env) (hE : E.fn = fns) : PrmOk E (prm49 Try.prog) := prm_ok E hE (by
    intro c hc
    simp only [List.mem_cons, List.not_mem_nil, or_false] at hc
    subst hc; exact ct51_ok) (by intro b hb; cases hb)
theorem cut_den {E : Env} (hE : E.fn = fns) {n : Nat} (hn : E.i 0 = n) : (f3 4 (.v 0) (.v 0) (.v 1)).den E = ((n - dkR (E.a 0) (E.i 1) n : Nat) : Int) ∧ (a3 5 (.v 0) (.v 0) (.v 1)).den E = cutA (E.a 0) n (E.i 1) := by
  refine ⟨?_, ?_⟩ <;> (simp only [f3, a3, SE.den, AE.den, SL.den, hE])
  · show (((E.i 0).toNat - dkR (fun j => E.a 0 j) (E.i 1) (E.i 0).toNat : Nat) : Int) = _; rw [hn]; rfl
  · show cutA (fun j => E.a 0 j) (E.i 0).toNat (E.i 1) = _; rw [hn]; rfl
theorem cut_facts {E : Env} (hE : E.fn = fns) {n : Nat} (hn : E.i 0 = n) (p0 : 0 ≤ E.i 1) (p1 : E.i 1 ≤ 1000) (hr : Rg (E.a 0) n) : Facts E cutF := by
  obtain ⟨dN, dA⟩ := cut_den hE hn
  have k1 := cut_ok hr p0 p1
  have h : (rgF (a3 5 (.v 0) (.v 0) (.v 1)) (f3 4 (.v 0) (.v 0) (.v 1))).1.den E = true := of_rg hE _ _ (by rw [dN, dA, Int.toNat_natCast]; exact k1)
  unfold cutF
  simp only [facts_cons, facts_nil, le_t, d_c, d_v, d_add, and_true, dN, hn]
  exact ⟨by omega, by omega, fun q hq => by simp only [List.mem_singleton] at hq; subst hq; exact h⟩
theorem pre49 {E0 : Env} {la : SV} {ex : List SBlk} (hE : E0.fn = fns) (hF : Facts E0 (ct49 la ex).pre) : ∃ n : Nat, E0.i 0 = n ∧ n ≤ 61 ∧ 0 ≤ E0.i 1 ∧ E0.i 1 ≤ 400 ∧ Rg (E0.a 0) n ∧ ¬ E0.i 1 < E0.i 6 := by
  have hF' : Facts E0 [((.le (.c 0) (.v 0)), true), ((.le (.v 0) (.c 61)), true), ((.le (.c 0) (.v 1)), true), ((.le (.v 1) (.c 400)), true), rgF (.v 0) (.v 0), ((.lt (.v 1) (.v 6)), false)] := hF
  have h := rg_of hE (.v 0) (.v 0) (hF' (rgF (.v 0) (.v 0)) (by simp))
  simp only [facts_cons, facts_nil, le_t, lt_f, d_c, d_v, and_true, rgF] at hF'
  obtain ⟨a, b, c, d, e, f⟩ := hF'
  refine ⟨(E0.i 0).toNat, by omega, by omega, c, d, ?_, by omega⟩
  have h2 : Rg (E0.a 0) (E0.i 0).toNat := h
  exact h2
structure I49 (n : Nat) (E0 E : Env) (k : Nat) : Prop where
  s : Sm2 E0 E
  i20 : E.i 20 = (k : Int)
  i21 : E.i 21 = (k : Int) - 1
  kn : k ≤ n
  n1 : 1 ≤ n
  lo : 0 < k → E0.a 0 ((k - 1) * 2 + 1) < E0.i 1
theorem keep49 {E0 E : Env} {A X : AE} {N Y : SE} (h : ∀ k, k ≠ 20 → k ≠ 21 → E.i k = E0.i k) (hb : E.b = E0.b) (hA : ∀ j, j < (Y.den E0).toNat * 2 → A.den E j = X.den E0 j) (hN : N.den E = Y.den E0) : ∀ q ∈ ([.i (.v 31) (.v 31), .i (.v 32) (.v 32), .i (.v 33) (.v 33), .i (.v 1) (.v 1), .b (.v 0) (.v 0), .i (.v 34) (.v 34), .i (.v 35) (.v 35), .i (.v 36) (.v 36), .b (.v 1) (.v 1), .i (.v 37) (.v 37), .i (.v 38) (.v 38), .i (.v 39) (.v 39), .a A X Y 2, .i N Y] : List Eqn), q.ok E E0 := by
  simp only [List.forall_mem_cons, List.not_mem_nil, false_imp_iff, implies_true, and_true, true_and, Eqn.ok]
  refine ⟨h 31 (by decide) (by decide), h 32 (by decide) (by decide), h 33 (by decide) (by decide), h 1 (by decide) (by decide), by show E.b 0 = E0.b 0; rw [hb], h 34 (by decide) (by decide), h 35 (by decide) (by decide), h 36 (by decide) (by decide), by show E.b 1 = E0.b 1; rw [hb], h 37 (by decide) (by decide), h 38 (by decide) (by decide), h 39 (by decide) (by decide), hA, hN⟩
theorem del2_0 (A : Nat → Int) (d j : Nat) : del2 A 0 d j = A (j + d * 2) := by unfold del2; rw [if_neg (by omega)]
theorem ct49n_ok : CtOk Try.prog fns (ct49 laN an2) := by
  refine ct_of_pts (p := prm49 Try.prog) (pts := pts49 Try.prog laN an2) (n := 900) (c0 := enterD (prm49 Try.prog) (ct49 laN an2)) (fun E hE => prm49_ok E hE) rfl (by intro q hq; cases hq) Try.func49 (by kernel_rfl) ?_ (fun E0 _ E => ∃ k, I49 (E0.i 0).toNat E0 E k) (fun E0 _ E => (E0.i 0 - E.i 20).toNat) h49nals (by kernel_rfl) ?_ ?_
  · intro t ht
    simp only [pts49, List.mem_cons, List.not_mem_nil, or_false] at ht
    subst ht
    exact ⟨by kernel_rfl, by decide⟩
  · intro E hE hF
    obtain ⟨n, hn, hn60, p0, p1, hr, hd⟩ := pre49 hE hF
    have hnt : (E.i 0).toNat = n := by omega
    obtain ⟨dN, dA⟩ := cut_den hE hn
    refine ⟨fun a ha => ?_, fun x hx => ?_⟩
    · obtain rfl := Option.some.inj ha; exact cut_facts hE hn p0 (by omega) hr
    · unfold h49nals at hx
      simp only [List.mem_cons, List.not_mem_nil, or_false] at hx
      rcases hx with rfl | rfl
      · intro hf
        have h0 := hf (SB.eq (.v 0) (.c 0), true) (by simp)
        simp only [eq_t, d_v, d_c] at h0
        have e1 : h49nae1.den E = _ := dN
        have hz : n - dkR (E.a 0) (E.i 1) n = 0 := by omega
        refine ⟨rfl, keep49 (fun _ _ _ => rfl) rfl (fun j hj => ?_) ?_⟩
        · rw [e1, hz] at hj; exact absurd hj (by simp)
        · rw [e1, hz]; exact h0
      · intro hf
        have h0 := hf (SB.eq (.v 0) (.c 0), false) (by simp)
        simp only [eq_f, d_v, d_c] at h0
        refine ⟨⟨_, rfl, .inl ⟨rfl, rfl⟩⟩, fun o => ⟨⟨0, ⟨fun k h1 h2 => ?_, rfl, rfl⟩, rfl, rfl, Nat.zero_le _, by omega, fun h => absurd h (Nat.lt_irrefl _)⟩, fun b hb => by cases hb⟩⟩
        show (match fnd k [(20, SE.c 0), (21, SE.c (-1))] with | some e => e.den E | none => E.i k) = _
        simp only [fnd, if_neg (Ne.symm h1), if_neg (Ne.symm h2)]
  · intro kk t ht
    have hk : kk = 0 := by
      have := (List.getElem?_eq_some_iff.1 ht).1
      simp [pts49] at this; omega
    subst hk
    refine ⟨h49np0ls, by rw [← ptD_some ht (ct49 laN an2).g]; exact h49np0run, fun E0 E hE0 hE hF0 ⟨k, hI⟩ => ?_⟩
    obtain ⟨n, hn, hn60, p0, p1, hr, hd⟩ := pre49 hE0 hF0
    have hnt : (E0.i 0).toNat = n := by omega
    rw [hnt] at hI
    obtain ⟨hS, h20, h21, hkn, hn1, hlo⟩ := hI
    obtain ⟨dN, dA⟩ := cut_den hE0 hn
    have q0 := hS.i 0 (by decide) (by decide); have q1 := hS.i 1 (by decide) (by decide); have q6 := hS.i 6 (by decide) (by decide)
    have qa : E.a 0 = E0.a 0 := by rw [hS.a]
    have hnE : E.i 0 = n := q0.trans hn
    have e7 : h49np0e7.den E0 = _ := dA
    have e8 : h49np0e8.den E0 = _ := dN
    refine ⟨?_, fun x hx => ?_⟩
    · obtain rfl := Option.some.inj ht
      show Facts E ([((.le (.c 0) (.v 0)), true), ((.le (.v 0) (.c 61)), true), ((.le (.c 0) (.v 1)), true), ((.le (.v 1) (.c 400)), true), ((rgF (.v 0) (.v 0)).1, true), ((.lt (.v 1) (.v 6)), false), ((.le (.c 0) (.v 20)), true), ((.le (.v 20) (.c 61)), true), ((.le (.c (-1)) (.v 21)), true), ((.le (.v 21) (.c 60)), true), ((.le (.c 1) (.v 0)), true), ((.le (.v 20) (.v 0)), true), ((.lt (.v 21) (.v 20)), true)])
      have hsr : (rgF (.v 0) (.v 0)).1.den E = true := of_rg hE (.v 0) (.v 0) (by
        show Rg (fun j => E.a 0 j) (E.i 0).toNat
        rw [hnE, Int.toNat_natCast, qa]; exact hr)
      simp only [h49naf0, h49np0f0, h49np0f1, h49np0f2, h49np0f3, h49np0f4, h49np0f5, facts_cons, facts_nil, le_t, lt_t, lt_f, d_c, d_v, d_add, and_true]
      refine ⟨by omega, by omega, by omega, by omega, hsr, by omega, by omega, by omega, by omega, by omega, by omega, by omega, by omega⟩
    · unfold h49np0ls at hx
      simp only [List.mem_cons, List.not_mem_nil, or_false] at hx
      have D3 : h49np0e3.den E = E0.a 0 (k * 2 + 1) := by
        show E.a 0 (E.i 20 * 2 + 1).toNat = _
        rw [qa, show (E.i 20 * 2 + 1).toNat = k * 2 + 1 by omega]
      have D10 : h49np0e10.den E = E0.a 0 (k * 2) := by
        show E.a 0 (E.i 20 * 2).toNat = _
        rw [qa, show (E.i 20 * 2).toNat = k * 2 by omega]
      have D5 : h49np0e5.den E = (k : Int) := by show E.i 21 + 1 = _; omega
      have D4 : h49np0e4.den E = upd (E0.a 0) (k * 2) (E0.i 1) := by
        funext j
        show (if j = (E.i 20 * 2).toNat then E.i 1 else E.a 0 j) = _
        rw [h20, show ((k : Int) * 2).toNat = k * 2 by omega, qa, q1]; rfl
      have D6 : h49np0e6.den E = del2 (upd (E0.a 0) (k * 2) (E0.i 1)) 0 k := by
        show E.fn.a 4 [.a (h49np0e4.den E), .i 0, .i (h49np0e5.den E)] = _
        rw [hE, D4, D5]; rfl
      have D11 : h49np0e11.den E = del2 (E0.a 0) 0 k := by
        show E.fn.a 4 [.a (fun j => E.a 0 j), .i 0, .i (h49np0e5.den E)] = _
        rw [hE, D5, qa]; rfl
      have D9 : h49np0e9.den E = (n : Int) - k := by show E.i 0 - h49np0e5.den E = _; rw [D5, hnE]
      have fin : ∀ (A : AE) (N : SE), (k < n → E0.i 1 ≤ E0.a 0 (k * 2 + 1)) → N.den E = (n : Int) - k → (∀ j, A.den E j = (if k < n ∧ E0.a 0 (k * 2) < E0.i 1 then upd (del2 (E0.a 0) 0 k) 0 (E0.i 1) else del2 (E0.a 0) 0 k) j) → ∀ q ∈ ([.i (.v 31) (.v 31), .i (.v 32) (.v 32), .i (.v 33) (.v 33), .i (.v 1) (.v 1), .b (.v 0) (.v 0), .i (.v 34) (.v 34), .i (.v 35) (.v 35), .i (.v 36) (.v 36), .b (.v 1) (.v 1), .i (.v 37) (.v 37), .i (.v 38) (.v 38), .i (.v 39) (.v 39), .a A h49np0e7 h49np0e8 2, .i N h49np0e8] : List Eqn), q.ok E E0 := fun A N hk hN hA => by
        have hdk : dkR (E0.a 0) (E0.i 1) n = k := dkR_eq hr hkn hk hlo
        refine keep49 (fun m h1 h2 => hS.i m h1 h2) hS.b (fun j _ => ?_) ?_
        · rw [e7, hA]; unfold cutA; rw [hdk]
        · rw [e8, hdk, hN]; omega
      have dl0 : k = 0 → ∀ j, del2 (E0.a 0) 0 k j = E0.a 0 j := fun h j => by rw [del2_0, h]; rfl
      rcases hx with rfl | rfl | rfl | rfl | rfl | rfl | rfl | rfl | rfl | rfl | rfl | rfl | rfl
      · intro hf
        simp only [h49naf0, h49np0f0, h49np0f1, h49np0f2, h49np0f3, h49np0f4, h49np0f5, facts_cons, facts_nil, le_t, le_f, lt_t, lt_f, eq_t, eq_f, d_v, d_c, D3, D10, D5, h20, h21, hnE, q1, q6, and_true] at hf
        refine ⟨⟨_, rfl, .inr ⟨rfl, rfl⟩⟩, fun o => ⟨⟨k + 1, ?_⟩, fun b hb => ?_⟩⟩
        · rw [hnt]
          refine ⟨⟨fun m h1 h2 => ?_, hS.b, hS.a⟩, ?_, ?_, by omega, hn1, fun _ => ?_⟩
          · show (match fnd m [(20, h49np0e0), (21, SE.v 20)] with | some e => e.den E | none => E.i m) = _
            simp only [fnd, if_neg (Ne.symm h1), if_neg (Ne.symm h2)]; exact hS.i m h1 h2
          · show E.i 20 + 1 = _
            omega
          · show E.i 20 = _
            omega
          · show E0.a 0 (k * 2 + 1) < _
            omega
        · obtain rfl := Option.some.inj hb
          show (E0.i 0 - (E.i 20 + 1)).toNat < (E0.i 0 - E.i 20).toNat
          omega
      · intro hf
        simp only [h49naf0, h49np0f0, h49np0f1, h49np0f2, h49np0f3, h49np0f4, h49np0f5, facts_cons, facts_nil, le_t, le_f, lt_t, lt_f, eq_t, eq_f, d_v, d_c, D3, D10, D5, h20, h21, hnE, q1, q6, and_true] at hf
        exact ⟨rfl, fin _ _ (fun _ => by omega) D9 (fun j => by
          rw [D6, if_pos (by omega), del2_0]
          unfold upd
          by_cases hj : j = 0
          · rw [if_pos hj, if_pos (by omega)]
          · rw [if_neg hj, if_neg (by omega), del2_0])⟩
      · intro hf
        simp only [h49naf0, h49np0f0, h49np0f1, h49np0f2, h49np0f3, h49np0f4, h49np0f5, facts_cons, facts_nil, le_t, le_f, lt_t, lt_f, eq_t, eq_f, d_v, d_c, D3, D10, D5, h20, h21, hnE, q1, q6, and_true] at hf
        omega
      · intro hf
        simp only [h49naf0, h49np0f0, h49np0f1, h49np0f2, h49np0f3, h49np0f4, h49np0f5, facts_cons, facts_nil, le_t, le_f, lt_t, lt_f, eq_t, eq_f, d_v, d_c, D3, D10, D5, h20, h21, hnE, q1, q6, and_true] at hf
        exact ⟨rfl, fin _ _ (fun _ => by omega) (by show E.i 0 = _; omega) (fun j => by
          rw [D4, if_pos (by omega)]
          unfold upd
          by_cases hj : j = 0
          · rw [if_pos hj, if_pos (by omega)]
          · rw [if_neg hj, if_neg (by omega), dl0 (by omega)])⟩
      · intro hf
        simp only [h49naf0, h49np0f0, h49np0f1, h49np0f2, h49np0f3, h49np0f4, h49np0f5, facts_cons, facts_nil, le_t, le_f, lt_t, lt_f, eq_t, eq_f, d_v, d_c, D3, D10, D5, h20, h21, hnE, q1, q6, and_true] at hf
        exfalso; omega
      · intro hf
        simp only [h49naf0, h49np0f0, h49np0f1, h49np0f2, h49np0f3, h49np0f4, h49np0f5, facts_cons, facts_nil, le_t, le_f, lt_t, lt_f, eq_t, eq_f, d_v, d_c, D3, D10, D5, h20, h21, hnE, q1, q6, and_true] at hf
        omega
      · intro hf
        simp only [h49naf0, h49np0f0, h49np0f1, h49np0f2, h49np0f3, h49np0f4, h49np0f5, facts_cons, facts_nil, le_t, le_f, lt_t, lt_f, eq_t, eq_f, d_v, d_c, D3, D10, D5, h20, h21, hnE, q1, q6, and_true] at hf
        exfalso; omega
      · intro hf
        simp only [h49naf0, h49np0f0, h49np0f1, h49np0f2, h49np0f3, h49np0f4, h49np0f5, facts_cons, facts_nil, le_t, le_f, lt_t, lt_f, eq_t, eq_f, d_v, d_c, D3, D10, D5, h20, h21, hnE, q1, q6, and_true] at hf
        exact ⟨rfl, fin _ _ (fun _ => by omega) D9 (fun j => by rw [D11, if_neg (by omega)])⟩
      · intro hf
        simp only [h49naf0, h49np0f0, h49np0f1, h49np0f2, h49np0f3, h49np0f4, h49np0f5, facts_cons, facts_nil, le_t, le_f, lt_t, lt_f, eq_t, eq_f, d_v, d_c, D3, D10, D5, h20, h21, hnE, q1, q6, and_true] at hf
        omega
      · intro hf
        simp only [h49naf0, h49np0f0, h49np0f1, h49np0f2, h49np0f3, h49np0f4, h49np0f5, facts_cons, facts_nil, le_t, le_f, lt_t, lt_f, eq_t, eq_f, d_v, d_c, D3, D10, D5, h20, h21, hnE, q1, q6, and_true] at hf
        exact ⟨rfl, fin _ _ (fun _ => by omega) (by show E.i 0 = _; omega) (fun j => by
          rw [if_neg (by omega), dl0 (by omega)]
          show E.a 0 j = _; rw [qa])⟩
      · intro hf
        simp only [h49naf0, h49np0f0, h49np0f1, h49np0f2, h49np0f3, h49np0f4, h49np0f5, facts_cons, facts_nil, le_t, le_f, lt_t, lt_f, eq_t, eq_f, d_v, d_c, D3, D10, D5, h20, h21, hnE, q1, q6, and_true] at hf
        exact ⟨rfl, fin _ _ (fun _ => by omega) D9 (fun j => by rw [D11, if_neg (by omega)])⟩
      · intro hf
        simp only [h49naf0, h49np0f0, h49np0f1, h49np0f2, h49np0f3, h49np0f4, h49np0f5, facts_cons, facts_nil, le_t, le_f, lt_t, lt_f, eq_t, eq_f, d_v, d_c, D3, D10, D5, h20, h21, hnE, q1, q6, and_true] at hf
        omega
      · intro hf
        simp only [h49naf0, h49np0f0, h49np0f1, h49np0f2, h49np0f3, h49np0f4, h49np0f5, facts_cons, facts_nil, le_t, le_f, lt_t, lt_f, eq_t, eq_f, d_v, d_c, D3, D10, D5, h20, h21, hnE, q1, q6, and_true] at hf
        exfalso; omega
theorem ct49t_ok : CtOk Try.prog fns (ct49 laT an3) := by
  refine ct_of_pts (p := prm49 Try.prog) (pts := pts49 Try.prog laT an3) (n := 900) (c0 := enterD (prm49 Try.prog) (ct49 laT an3)) (fun E hE => prm49_ok E hE) rfl (by intro q hq; cases hq) Try.func49 (by kernel_rfl) ?_ (fun E0 _ E => ∃ k, I49 (E0.i 0).toNat E0 E k) (fun E0 _ E => (E0.i 0 - E.i 20).toNat) h49tals (by kernel_rfl) ?_ ?_
  · intro t ht
    simp only [pts49, List.mem_cons, List.not_mem_nil, or_false] at ht
    subst ht
    exact ⟨by kernel_rfl, by decide⟩
  · intro E hE hF
    obtain ⟨n, hn, hn60, p0, p1, hr, hd⟩ := pre49 hE hF
    have hnt : (E.i 0).toNat = n := by omega
    obtain ⟨dN, dA⟩ := cut_den hE hn
    refine ⟨fun a ha => ?_, fun x hx => ?_⟩
    · obtain rfl := Option.some.inj ha; exact cut_facts hE hn p0 (by omega) hr
    · unfold h49tals at hx
      simp only [List.mem_cons, List.not_mem_nil, or_false] at hx
      rcases hx with rfl | rfl
      · intro hf
        have h0 := hf (SB.eq (.v 0) (.c 0), true) (by simp)
        simp only [eq_t, d_v, d_c] at h0
        have e1 : h49tae1.den E = _ := dN
        have hz : n - dkR (E.a 0) (E.i 1) n = 0 := by omega
        refine ⟨rfl, keep49 (fun _ _ _ => rfl) rfl (fun j hj => ?_) ?_⟩
        · rw [e1, hz] at hj; exact absurd hj (by simp)
        · rw [e1, hz]; exact h0
      · intro hf
        have h0 := hf (SB.eq (.v 0) (.c 0), false) (by simp)
        simp only [eq_f, d_v, d_c] at h0
        refine ⟨⟨_, rfl, .inl ⟨rfl, rfl⟩⟩, fun o => ⟨⟨0, ⟨fun k h1 h2 => ?_, rfl, rfl⟩, rfl, rfl, Nat.zero_le _, by omega, fun h => absurd h (Nat.lt_irrefl _)⟩, fun b hb => by cases hb⟩⟩
        show (match fnd k [(20, SE.c 0), (21, SE.c (-1))] with | some e => e.den E | none => E.i k) = _
        simp only [fnd, if_neg (Ne.symm h1), if_neg (Ne.symm h2)]
  · intro kk t ht
    have hk : kk = 0 := by
      have := (List.getElem?_eq_some_iff.1 ht).1
      simp [pts49] at this; omega
    subst hk
    refine ⟨h49tp0ls, by rw [← ptD_some ht (ct49 laT an3).g]; exact h49tp0run, fun E0 E hE0 hE hF0 ⟨k, hI⟩ => ?_⟩
    obtain ⟨n, hn, hn60, p0, p1, hr, hd⟩ := pre49 hE0 hF0
    have hnt : (E0.i 0).toNat = n := by omega
    rw [hnt] at hI
    obtain ⟨hS, h20, h21, hkn, hn1, hlo⟩ := hI
    obtain ⟨dN, dA⟩ := cut_den hE0 hn
    have q0 := hS.i 0 (by decide) (by decide); have q1 := hS.i 1 (by decide) (by decide); have q6 := hS.i 6 (by decide) (by decide)
    have qa : E.a 0 = E0.a 0 := by rw [hS.a]
    have hnE : E.i 0 = n := q0.trans hn
    have e7 : h49tp0e7.den E0 = _ := dA
    have e8 : h49tp0e8.den E0 = _ := dN
    refine ⟨?_, fun x hx => ?_⟩
    · obtain rfl := Option.some.inj ht
      show Facts E ([((.le (.c 0) (.v 0)), true), ((.le (.v 0) (.c 61)), true), ((.le (.c 0) (.v 1)), true), ((.le (.v 1) (.c 400)), true), ((rgF (.v 0) (.v 0)).1, true), ((.lt (.v 1) (.v 6)), false), ((.le (.c 0) (.v 20)), true), ((.le (.v 20) (.c 61)), true), ((.le (.c (-1)) (.v 21)), true), ((.le (.v 21) (.c 60)), true), ((.le (.c 1) (.v 0)), true), ((.le (.v 20) (.v 0)), true), ((.lt (.v 21) (.v 20)), true)])
      have hsr : (rgF (.v 0) (.v 0)).1.den E = true := of_rg hE (.v 0) (.v 0) (by
        show Rg (fun j => E.a 0 j) (E.i 0).toNat
        rw [hnE, Int.toNat_natCast, qa]; exact hr)
      simp only [h49taf0, h49tp0f0, h49tp0f1, h49tp0f2, h49tp0f3, h49tp0f4, h49tp0f5, facts_cons, facts_nil, le_t, lt_t, lt_f, d_c, d_v, d_add, and_true]
      refine ⟨by omega, by omega, by omega, by omega, hsr, by omega, by omega, by omega, by omega, by omega, by omega, by omega, by omega⟩
    · unfold h49tp0ls at hx
      simp only [List.mem_cons, List.not_mem_nil, or_false] at hx
      have D3 : h49tp0e3.den E = E0.a 0 (k * 2 + 1) := by
        show E.a 0 (E.i 20 * 2 + 1).toNat = _
        rw [qa, show (E.i 20 * 2 + 1).toNat = k * 2 + 1 by omega]
      have D10 : h49tp0e10.den E = E0.a 0 (k * 2) := by
        show E.a 0 (E.i 20 * 2).toNat = _
        rw [qa, show (E.i 20 * 2).toNat = k * 2 by omega]
      have D5 : h49tp0e5.den E = (k : Int) := by show E.i 21 + 1 = _; omega
      have D4 : h49tp0e4.den E = upd (E0.a 0) (k * 2) (E0.i 1) := by
        funext j
        show (if j = (E.i 20 * 2).toNat then E.i 1 else E.a 0 j) = _
        rw [h20, show ((k : Int) * 2).toNat = k * 2 by omega, qa, q1]; rfl
      have D6 : h49tp0e6.den E = del2 (upd (E0.a 0) (k * 2) (E0.i 1)) 0 k := by
        show E.fn.a 4 [.a (h49tp0e4.den E), .i 0, .i (h49tp0e5.den E)] = _
        rw [hE, D4, D5]; rfl
      have D11 : h49tp0e11.den E = del2 (E0.a 0) 0 k := by
        show E.fn.a 4 [.a (fun j => E.a 0 j), .i 0, .i (h49tp0e5.den E)] = _
        rw [hE, D5, qa]; rfl
      have D9 : h49tp0e9.den E = (n : Int) - k := by show E.i 0 - h49tp0e5.den E = _; rw [D5, hnE]
      have fin : ∀ (A : AE) (N : SE), (k < n → E0.i 1 ≤ E0.a 0 (k * 2 + 1)) → N.den E = (n : Int) - k → (∀ j, A.den E j = (if k < n ∧ E0.a 0 (k * 2) < E0.i 1 then upd (del2 (E0.a 0) 0 k) 0 (E0.i 1) else del2 (E0.a 0) 0 k) j) → ∀ q ∈ ([.i (.v 31) (.v 31), .i (.v 32) (.v 32), .i (.v 33) (.v 33), .i (.v 1) (.v 1), .b (.v 0) (.v 0), .i (.v 34) (.v 34), .i (.v 35) (.v 35), .i (.v 36) (.v 36), .b (.v 1) (.v 1), .i (.v 37) (.v 37), .i (.v 38) (.v 38), .i (.v 39) (.v 39), .a A h49tp0e7 h49tp0e8 2, .i N h49tp0e8] : List Eqn), q.ok E E0 := fun A N hk hN hA => by
        have hdk : dkR (E0.a 0) (E0.i 1) n = k := dkR_eq hr hkn hk hlo
        refine keep49 (fun m h1 h2 => hS.i m h1 h2) hS.b (fun j _ => ?_) ?_
        · rw [e7, hA]; unfold cutA; rw [hdk]
        · rw [e8, hdk, hN]; omega
      have dl0 : k = 0 → ∀ j, del2 (E0.a 0) 0 k j = E0.a 0 j := fun h j => by rw [del2_0, h]; rfl
      rcases hx with rfl | rfl | rfl | rfl | rfl | rfl | rfl | rfl | rfl | rfl | rfl | rfl | rfl
      · intro hf
        simp only [h49taf0, h49tp0f0, h49tp0f1, h49tp0f2, h49tp0f3, h49tp0f4, h49tp0f5, facts_cons, facts_nil, le_t, le_f, lt_t, lt_f, eq_t, eq_f, d_v, d_c, D3, D10, D5, h20, h21, hnE, q1, q6, and_true] at hf
        refine ⟨⟨_, rfl, .inr ⟨rfl, rfl⟩⟩, fun o => ⟨⟨k + 1, ?_⟩, fun b hb => ?_⟩⟩
        · rw [hnt]
          refine ⟨⟨fun m h1 h2 => ?_, hS.b, hS.a⟩, ?_, ?_, by omega, hn1, fun _ => ?_⟩
          · show (match fnd m [(20, h49tp0e0), (21, SE.v 20)] with | some e => e.den E | none => E.i m) = _
            simp only [fnd, if_neg (Ne.symm h1), if_neg (Ne.symm h2)]; exact hS.i m h1 h2
          · show E.i 20 + 1 = _
            omega
          · show E.i 20 = _
            omega
          · show E0.a 0 (k * 2 + 1) < _
            omega
        · obtain rfl := Option.some.inj hb
          show (E0.i 0 - (E.i 20 + 1)).toNat < (E0.i 0 - E.i 20).toNat
          omega
      · intro hf
        simp only [h49taf0, h49tp0f0, h49tp0f1, h49tp0f2, h49tp0f3, h49tp0f4, h49tp0f5, facts_cons, facts_nil, le_t, le_f, lt_t, lt_f, eq_t, eq_f, d_v, d_c, D3, D10, D5, h20, h21, hnE, q1, q6, and_true] at hf
        exact ⟨rfl, fin _ _ (fun _ => by omega) D9 (fun j => by
          rw [D6, if_pos (by omega), del2_0]
          unfold upd
          by_cases hj : j = 0
          · rw [if_pos hj, if_pos (by omega)]
          · rw [if_neg hj, if_neg (by omega), del2_0])⟩
      · intro hf
        simp only [h49taf0, h49tp0f0, h49tp0f1, h49tp0f2, h49tp0f3, h49tp0f4, h49tp0f5, facts_cons, facts_nil, le_t, le_f, lt_t, lt_f, eq_t, eq_f, d_v, d_c, D3, D10, D5, h20, h21, hnE, q1, q6, and_true] at hf
        omega
      · intro hf
        simp only [h49taf0, h49tp0f0, h49tp0f1, h49tp0f2, h49tp0f3, h49tp0f4, h49tp0f5, facts_cons, facts_nil, le_t, le_f, lt_t, lt_f, eq_t, eq_f, d_v, d_c, D3, D10, D5, h20, h21, hnE, q1, q6, and_true] at hf
        exact ⟨rfl, fin _ _ (fun _ => by omega) (by show E.i 0 = _; omega) (fun j => by
          rw [D4, if_pos (by omega)]
          unfold upd
          by_cases hj : j = 0
          · rw [if_pos hj, if_pos (by omega)]
          · rw [if_neg hj, if_neg (by omega), dl0 (by omega)])⟩
      · intro hf
        simp only [h49taf0, h49tp0f0, h49tp0f1, h49tp0f2, h49tp0f3, h49tp0f4, h49tp0f5, facts_cons, facts_nil, le_t, le_f, lt_t, lt_f, eq_t, eq_f, d_v, d_c, D3, D10, D5, h20, h21, hnE, q1, q6, and_true] at hf
        exfalso; omega
      · intro hf
        simp only [h49taf0, h49tp0f0, h49tp0f1, h49tp0f2, h49tp0f3, h49tp0f4, h49tp0f5, facts_cons, facts_nil, le_t, le_f, lt_t, lt_f, eq_t, eq_f, d_v, d_c, D3, D10, D5, h20, h21, hnE, q1, q6, and_true] at hf
        omega
      · intro hf
        simp only [h49taf0, h49tp0f0, h49tp0f1, h49tp0f2, h49tp0f3, h49tp0f4, h49tp0f5, facts_cons, facts_nil, le_t, le_f, lt_t, lt_f, eq_t, eq_f, d_v, d_c, D3, D10, D5, h20, h21, hnE, q1, q6, and_true] at hf
        exfalso; omega
      · intro hf
        simp only [h49taf0, h49tp0f0, h49tp0f1, h49tp0f2, h49tp0f3, h49tp0f4, h49tp0f5, facts_cons, facts_nil, le_t, le_f, lt_t, lt_f, eq_t, eq_f, d_v, d_c, D3, D10, D5, h20, h21, hnE, q1, q6, and_true] at hf
        exact ⟨rfl, fin _ _ (fun _ => by omega) D9 (fun j => by rw [D11, if_neg (by omega)])⟩
      · intro hf
        simp only [h49taf0, h49tp0f0, h49tp0f1, h49tp0f2, h49tp0f3, h49tp0f4, h49tp0f5, facts_cons, facts_nil, le_t, le_f, lt_t, lt_f, eq_t, eq_f, d_v, d_c, D3, D10, D5, h20, h21, hnE, q1, q6, and_true] at hf
        omega
      · intro hf
        simp only [h49taf0, h49tp0f0, h49tp0f1, h49tp0f2, h49tp0f3, h49tp0f4, h49tp0f5, facts_cons, facts_nil, le_t, le_f, lt_t, lt_f, eq_t, eq_f, d_v, d_c, D3, D10, D5, h20, h21, hnE, q1, q6, and_true] at hf
        exact ⟨rfl, fin _ _ (fun _ => by omega) (by show E.i 0 = _; omega) (fun j => by
          rw [if_neg (by omega), dl0 (by omega)]
          show E.a 0 j = _; rw [qa])⟩
      · intro hf
        simp only [h49taf0, h49tp0f0, h49tp0f1, h49tp0f2, h49tp0f3, h49tp0f4, h49tp0f5, facts_cons, facts_nil, le_t, le_f, lt_t, lt_f, eq_t, eq_f, d_v, d_c, D3, D10, D5, h20, h21, hnE, q1, q6, and_true] at hf
        exact ⟨rfl, fin _ _ (fun _ => by omega) D9 (fun j => by rw [D11, if_neg (by omega)])⟩
      · intro hf
        simp only [h49taf0, h49tp0f0, h49tp0f1, h49tp0f2, h49tp0f3, h49tp0f4, h49tp0f5, facts_cons, facts_nil, le_t, le_f, lt_t, lt_f, eq_t, eq_f, d_v, d_c, D3, D10, D5, h20, h21, hnE, q1, q6, and_true] at hf
        omega
      · intro hf
        simp only [h49taf0, h49tp0f0, h49tp0f1, h49tp0f2, h49tp0f3, h49tp0f4, h49tp0f5, facts_cons, facts_nil, le_t, le_f, lt_t, lt_f, eq_t, eq_f, d_v, d_c, D3, D10, D5, h20, h21, hnE, q1, q6, and_true] at hf
        exfalso; omega
end Go.Proofs.Ytgianhjmjiiadaa
