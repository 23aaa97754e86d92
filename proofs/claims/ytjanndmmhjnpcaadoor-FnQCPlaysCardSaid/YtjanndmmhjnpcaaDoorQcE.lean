/- addConnectionID keeps its contracts. -/
import Derived.Test.YtjanndmmhjnpcaaDoorQcO
import Derived.KernelRfl
set_option autoImplicit true
set_option relaxedAutoImplicit true
set_option linter.unusedVariables false
set_option linter.unusedSimpArgs false
set_option maxRecDepth 100000
set_option maxHeartbeats 4000000
namespace Go.Proofs.YtjanndmmhjnpcaaDoor
open Go Go.Sy Go.RowKit
noncomputable def nae0 : SE := .add (.v 0) (.c 1)
noncomputable def nae1 : AE := .tl (.v 0) (.v 0) (.i (.v 1) .nil)
noncomputable def nae2 : SE := .ap 5 (.a (.v 0) (.i (.v 0) (.i (.v 1) .nil)))
noncomputable def nae3 : AE := .ap 5 (.a (.v 0) (.i (.v 0) (.i (.v 1) .nil)))
noncomputable def nae4 : SE := .sub (.v 0) (.c 1)
noncomputable def nae5 : SE := .rd (.v 0) nae4
noncomputable def nax0 : Vl := .out 0 [.b (.v 0) (.v 0), .i (.v 10) (.v 10), .i (.v 11) (.v 11), .i (.v 10) (.v 10), .i (.v 9) (.v 9), .i (.v 12) (.v 12), .i (.v 13) (.v 13), .i (.v 14) (.v 14), .p 1002 (.i nae0 (.i (.v 9) (.a nae1 .nil))) (.i nae2 (.i (.v 9) (.a nae3 .nil)))] [((.eq (.v 0) (.c 0)), true), ((.le (.c 0) (.v 0)), true), ((.le (.v 0) (.c 1000)), true), ((.le (.c 0) (.v 1)), true), ((.le (.v 1) (.c 255)), true), ((.eq (.v 2) (.v 1)), true), ((.eq (.v 3) (.v 1)), true), ((.ap 1 (.a (.v 0) (.i (.v 0) .nil))), true)]
noncomputable def nax1 : Vl := .out 0 [.b (.v 0) (.v 0), .i (.v 10) (.v 10), .i (.v 11) (.v 11), .i (.v 10) (.v 10), .i (.v 9) (.v 9), .i (.v 12) (.v 12), .i (.v 13) (.v 13), .i (.v 14) (.v 14), .p 1002 (.i nae0 (.i (.v 9) (.a nae1 .nil))) (.i nae2 (.i (.v 9) (.a nae3 .nil)))] [((.lt nae5 (.v 1)), true), ((.lt nae4 (.v 0)), true), ((.le (.c 0) nae4), true), ((.eq (.v 0) (.c 0)), false), ((.le (.c 0) (.v 0)), true), ((.le (.v 0) (.c 1000)), true), ((.le (.c 0) (.v 1)), true), ((.le (.v 1) (.c 255)), true), ((.eq (.v 2) (.v 1)), true), ((.eq (.v 3) (.v 1)), true), ((.ap 1 (.a (.v 0) (.i (.v 0) .nil))), true)]
noncomputable def nax2 : Vl := .go 0 [(20, (.c 0))] [] [] [((.lt nae5 (.v 1)), false), ((.lt nae4 (.v 0)), true), ((.le (.c 0) nae4), true), ((.eq (.v 0) (.c 0)), false), ((.le (.c 0) (.v 0)), true), ((.le (.v 0) (.c 1000)), true), ((.le (.c 0) (.v 1)), true), ((.le (.v 1) (.c 255)), true), ((.eq (.v 2) (.v 1)), true), ((.eq (.v 3) (.v 1)), true), ((.ap 1 (.a (.v 0) (.i (.v 0) .nil))), true)] (.code (.loop (loopB (prm46 Tryd.prog).P 46 5))) (loopK (prm46 Tryd.prog).P 46 5)
noncomputable def nax3 : Vl := .dead [((.lt nae4 (.v 0)), false), ((.le (.c 0) nae4), true), ((.eq (.v 0) (.c 0)), false), ((.le (.c 0) (.v 0)), true), ((.le (.v 0) (.c 1000)), true), ((.le (.c 0) (.v 1)), true), ((.le (.v 1) (.c 255)), true), ((.eq (.v 2) (.v 1)), true), ((.eq (.v 3) (.v 1)), true), ((.ap 1 (.a (.v 0) (.i (.v 0) .nil))), true)]
noncomputable def nax4 : Vl := .dead [((.le (.c 0) nae4), false), ((.eq (.v 0) (.c 0)), false), ((.le (.c 0) (.v 0)), true), ((.le (.v 0) (.c 1000)), true), ((.le (.c 0) (.v 1)), true), ((.le (.v 1) (.c 255)), true), ((.eq (.v 2) (.v 1)), true), ((.eq (.v 3) (.v 1)), true), ((.ap 1 (.a (.v 0) (.i (.v 0) .nil))), true)]
noncomputable def nals : List Vl := [nax0, nax1, nax2, nax3, nax4]
noncomputable def np0e0 : SE := .ap 5 (.a (.v 0) (.i (.v 0) (.i (.v 1) .nil)))
noncomputable def np0e1 : AE := .ap 5 (.a (.v 0) (.i (.v 0) (.i (.v 1) .nil)))
noncomputable def np0e2 : SE := .rd (.v 0) (.v 20)
noncomputable def np0e3 : SE := .ap 6 (.a (.v 0) (.i (.v 0) (.i (.v 1) .nil)))
noncomputable def np0e4 : SE := .sub (.v 0) (.c 1)
noncomputable def np0e5 : SE := .rd (.v 0) np0e4
noncomputable def np0e6 : SE := .add (.v 0) (.c 1)
noncomputable def np0e7 : AE := .ap 2 (.a (.v 0) (.i (.v 0) (.i (.v 20) (.i (.v 1) .nil))))
noncomputable def np0e8 : SE := .add (.v 20) (.c 1)
noncomputable def np0x0 : Vl := .out 0 [.b (.v 0) (.v 0), .i (.v 10) (.v 10), .i (.v 11) (.v 11), .i (.v 10) (.v 10), .i (.v 9) (.v 9), .i (.v 12) (.v 12), .i (.v 13) (.v 13), .i (.v 14) (.v 14), .p 1002 (.i (.v 0) (.i (.v 9) (.a (.v 0) .nil))) (.i np0e0 (.i (.v 9) (.a np0e1 .nil)))] [((.eq np0e2 (.v 3)), true), ((.eq np0e2 (.v 2)), true), ((.eq np0e2 (.v 1)), true), ((.lt (.v 20) (.v 0)), true), ((.le (.c 0) (.v 0)), true), ((.le (.v 0) (.c 1000)), true), ((.le (.c 0) (.v 1)), true), ((.le (.v 1) (.c 255)), true), ((.eq (.v 2) (.v 1)), true), ((.eq (.v 3) (.v 1)), true), ((.ap 1 (.a (.v 0) (.i (.v 0) .nil))), true), ((.le (.c 0) (.v 20)), true), ((.le (.v 20) np0e3), true), ((.le (.v 20) (.c 1000)), true), ((.lt np0e5 (.v 1)), false)]
noncomputable def np0x1 : Vl := .dead [((.eq np0e2 (.v 3)), false), ((.eq np0e2 (.v 2)), true), ((.eq np0e2 (.v 1)), true), ((.lt (.v 20) (.v 0)), true), ((.le (.c 0) (.v 0)), true), ((.le (.v 0) (.c 1000)), true), ((.le (.c 0) (.v 1)), true), ((.le (.v 1) (.c 255)), true), ((.eq (.v 2) (.v 1)), true), ((.eq (.v 3) (.v 1)), true), ((.ap 1 (.a (.v 0) (.i (.v 0) .nil))), true), ((.le (.c 0) (.v 20)), true), ((.le (.v 20) np0e3), true), ((.le (.v 20) (.c 1000)), true), ((.lt np0e5 (.v 1)), false)]
noncomputable def np0x2 : Vl := .dead [((.eq np0e2 (.v 2)), false), ((.eq np0e2 (.v 1)), true), ((.lt (.v 20) (.v 0)), true), ((.le (.c 0) (.v 0)), true), ((.le (.v 0) (.c 1000)), true), ((.le (.c 0) (.v 1)), true), ((.le (.v 1) (.c 255)), true), ((.eq (.v 2) (.v 1)), true), ((.eq (.v 3) (.v 1)), true), ((.ap 1 (.a (.v 0) (.i (.v 0) .nil))), true), ((.le (.c 0) (.v 20)), true), ((.le (.v 20) np0e3), true), ((.le (.v 20) (.c 1000)), true), ((.lt np0e5 (.v 1)), false)]
noncomputable def np0x3 : Vl := .out 0 [.b (.v 0) (.v 0), .i (.v 10) (.v 10), .i (.v 11) (.v 11), .i (.v 10) (.v 10), .i (.v 9) (.v 9), .i (.v 12) (.v 12), .i (.v 13) (.v 13), .i (.v 14) (.v 14), .p 1002 (.i np0e6 (.i (.v 9) (.a np0e7 .nil))) (.i np0e0 (.i (.v 9) (.a np0e1 .nil)))] [((.lt (.v 1) np0e2), true), ((.eq np0e2 (.v 1)), false), ((.lt (.v 20) (.v 0)), true), ((.le (.c 0) (.v 0)), true), ((.le (.v 0) (.c 1000)), true), ((.le (.c 0) (.v 1)), true), ((.le (.v 1) (.c 255)), true), ((.eq (.v 2) (.v 1)), true), ((.eq (.v 3) (.v 1)), true), ((.ap 1 (.a (.v 0) (.i (.v 0) .nil))), true), ((.le (.c 0) (.v 20)), true), ((.le (.v 20) np0e3), true), ((.le (.v 20) (.c 1000)), true), ((.lt np0e5 (.v 1)), false)]
noncomputable def np0x4 : Vl := .go 0 [(20, np0e8)] [] [] [((.lt (.v 1) np0e2), false), ((.eq np0e2 (.v 1)), false), ((.lt (.v 20) (.v 0)), true), ((.le (.c 0) (.v 0)), true), ((.le (.v 0) (.c 1000)), true), ((.le (.c 0) (.v 1)), true), ((.le (.v 1) (.c 255)), true), ((.eq (.v 2) (.v 1)), true), ((.eq (.v 3) (.v 1)), true), ((.ap 1 (.a (.v 0) (.i (.v 0) .nil))), true), ((.le (.c 0) (.v 20)), true), ((.le (.v 20) np0e3), true), ((.le (.v 20) (.c 1000)), true), ((.lt np0e5 (.v 1)), false)] (.exit .normal) (.loop (loopB (prm46 Tryd.prog).P 46 5) :: loopK (prm46 Tryd.prog).P 46 5)
noncomputable def np0x5 : Vl := .out 0 [.b (.v 0) (.v 0), .i (.v 10) (.v 10), .i (.v 11) (.v 11), .i (.v 10) (.v 10), .i (.v 9) (.v 9), .i (.v 12) (.v 12), .i (.v 13) (.v 13), .i (.v 14) (.v 14), .p 1002 (.i (.v 0) (.i (.v 9) (.a (.v 0) .nil))) (.i np0e0 (.i (.v 9) (.a np0e1 .nil)))] [((.lt (.v 20) (.v 0)), false), ((.le (.c 0) (.v 0)), true), ((.le (.v 0) (.c 1000)), true), ((.le (.c 0) (.v 1)), true), ((.le (.v 1) (.c 255)), true), ((.eq (.v 2) (.v 1)), true), ((.eq (.v 3) (.v 1)), true), ((.ap 1 (.a (.v 0) (.i (.v 0) .nil))), true), ((.le (.c 0) (.v 20)), true), ((.le (.v 20) np0e3), true), ((.le (.v 20) (.c 1000)), true), ((.lt np0e5 (.v 1)), false)]
noncomputable def np0ls : List Vl := [np0x0, np0x1, np0x2, np0x3, np0x4, np0x5]
theorem np0run : (run (prm46 Tryd.prog) 900 (ptD (pts46 Tryd.prog .nilptr []) 0 46)).map (vOf (prm46 Tryd.prog) ct46n (pts46 Tryd.prog .nilptr [])) = np0ls := by kernel_rfl
-- 6 ways; terms: np0e0, np0e1, np0e2, np0e3, np0e4, np0e5, np0e6, np0e7, np0e8
noncomputable def tae0 : SE := .add (.v 0) (.c 1)
noncomputable def tae1 : AE := .tl (.v 0) (.v 0) (.i (.v 1) .nil)
noncomputable def tae2 : SE := .ap 5 (.a (.v 0) (.i (.v 0) (.i (.v 1) .nil)))
noncomputable def tae3 : AE := .ap 5 (.a (.v 0) (.i (.v 0) (.i (.v 1) .nil)))
noncomputable def tae4 : SE := .sub (.v 0) (.c 1)
noncomputable def tae5 : SE := .rd (.v 0) tae4
noncomputable def tax0 : Vl := .out 0 [.b (.v 0) (.v 0), .i (.v 10) (.v 10), .i (.v 11) (.v 11), .i (.v 10) (.v 10), .i (.v 9) (.v 9), .i (.v 12) (.v 12), .i (.v 13) (.v 13), .i (.v 14) (.v 14), .p 1002 (.i tae0 (.i (.v 9) (.a tae1 .nil))) (.i tae2 (.i (.v 9) (.a tae3 .nil)))] [((.eq (.v 0) (.c 0)), true), ((.le (.c 0) (.v 0)), true), ((.le (.v 0) (.c 1000)), true), ((.le (.c 0) (.v 1)), true), ((.le (.v 1) (.c 255)), true), ((.eq (.v 2) (.v 1)), true), ((.eq (.v 3) (.v 1)), true), ((.ap 1 (.a (.v 0) (.i (.v 0) .nil))), true)]
noncomputable def tax1 : Vl := .out 0 [.b (.v 0) (.v 0), .i (.v 10) (.v 10), .i (.v 11) (.v 11), .i (.v 10) (.v 10), .i (.v 9) (.v 9), .i (.v 12) (.v 12), .i (.v 13) (.v 13), .i (.v 14) (.v 14), .p 1002 (.i tae0 (.i (.v 9) (.a tae1 .nil))) (.i tae2 (.i (.v 9) (.a tae3 .nil)))] [((.lt tae5 (.v 1)), true), ((.lt tae4 (.v 0)), true), ((.le (.c 0) tae4), true), ((.eq (.v 0) (.c 0)), false), ((.le (.c 0) (.v 0)), true), ((.le (.v 0) (.c 1000)), true), ((.le (.c 0) (.v 1)), true), ((.le (.v 1) (.c 255)), true), ((.eq (.v 2) (.v 1)), true), ((.eq (.v 3) (.v 1)), true), ((.ap 1 (.a (.v 0) (.i (.v 0) .nil))), true)]
noncomputable def tax2 : Vl := .go 0 [(20, (.c 0))] [] [] [((.lt tae5 (.v 1)), false), ((.lt tae4 (.v 0)), true), ((.le (.c 0) tae4), true), ((.eq (.v 0) (.c 0)), false), ((.le (.c 0) (.v 0)), true), ((.le (.v 0) (.c 1000)), true), ((.le (.c 0) (.v 1)), true), ((.le (.v 1) (.c 255)), true), ((.eq (.v 2) (.v 1)), true), ((.eq (.v 3) (.v 1)), true), ((.ap 1 (.a (.v 0) (.i (.v 0) .nil))), true)] (.code (.loop (loopB (prm46 Tryd.prog).P 46 5))) (loopK (prm46 Tryd.prog).P 46 5)
noncomputable def tax3 : Vl := .dead [((.lt tae4 (.v 0)), false), ((.le (.c 0) tae4), true), ((.eq (.v 0) (.c 0)), false), ((.le (.c 0) (.v 0)), true), ((.le (.v 0) (.c 1000)), true), ((.le (.c 0) (.v 1)), true), ((.le (.v 1) (.c 255)), true), ((.eq (.v 2) (.v 1)), true), ((.eq (.v 3) (.v 1)), true), ((.ap 1 (.a (.v 0) (.i (.v 0) .nil))), true)]
noncomputable def tax4 : Vl := .dead [((.le (.c 0) tae4), false), ((.eq (.v 0) (.c 0)), false), ((.le (.c 0) (.v 0)), true), ((.le (.v 0) (.c 1000)), true), ((.le (.c 0) (.v 1)), true), ((.le (.v 1) (.c 255)), true), ((.eq (.v 2) (.v 1)), true), ((.eq (.v 3) (.v 1)), true), ((.ap 1 (.a (.v 0) (.i (.v 0) .nil))), true)]
noncomputable def tals : List Vl := [tax0, tax1, tax2, tax3, tax4]
noncomputable def tp0e0 : SE := .ap 5 (.a (.v 0) (.i (.v 0) (.i (.v 1) .nil)))
noncomputable def tp0e1 : AE := .ap 5 (.a (.v 0) (.i (.v 0) (.i (.v 1) .nil)))
noncomputable def tp0e2 : SE := .rd (.v 0) (.v 20)
noncomputable def tp0e3 : SE := .ap 6 (.a (.v 0) (.i (.v 0) (.i (.v 1) .nil)))
noncomputable def tp0e4 : SE := .sub (.v 0) (.c 1)
noncomputable def tp0e5 : SE := .rd (.v 0) tp0e4
noncomputable def tp0e6 : SE := .add (.v 0) (.c 1)
noncomputable def tp0e7 : AE := .ap 2 (.a (.v 0) (.i (.v 0) (.i (.v 20) (.i (.v 1) .nil))))
noncomputable def tp0e8 : SE := .add (.v 20) (.c 1)
noncomputable def tp0x0 : Vl := .out 0 [.b (.v 0) (.v 0), .i (.v 10) (.v 10), .i (.v 11) (.v 11), .i (.v 10) (.v 10), .i (.v 9) (.v 9), .i (.v 12) (.v 12), .i (.v 13) (.v 13), .i (.v 14) (.v 14), .p 1002 (.i (.v 0) (.i (.v 9) (.a (.v 0) .nil))) (.i tp0e0 (.i (.v 9) (.a tp0e1 .nil)))] [((.eq tp0e2 (.v 3)), true), ((.eq tp0e2 (.v 2)), true), ((.eq tp0e2 (.v 1)), true), ((.lt (.v 20) (.v 0)), true), ((.le (.c 0) (.v 0)), true), ((.le (.v 0) (.c 1000)), true), ((.le (.c 0) (.v 1)), true), ((.le (.v 1) (.c 255)), true), ((.eq (.v 2) (.v 1)), true), ((.eq (.v 3) (.v 1)), true), ((.ap 1 (.a (.v 0) (.i (.v 0) .nil))), true), ((.le (.c 0) (.v 20)), true), ((.le (.v 20) tp0e3), true), ((.le (.v 20) (.c 1000)), true), ((.lt tp0e5 (.v 1)), false)]
noncomputable def tp0x1 : Vl := .dead [((.eq tp0e2 (.v 3)), false), ((.eq tp0e2 (.v 2)), true), ((.eq tp0e2 (.v 1)), true), ((.lt (.v 20) (.v 0)), true), ((.le (.c 0) (.v 0)), true), ((.le (.v 0) (.c 1000)), true), ((.le (.c 0) (.v 1)), true), ((.le (.v 1) (.c 255)), true), ((.eq (.v 2) (.v 1)), true), ((.eq (.v 3) (.v 1)), true), ((.ap 1 (.a (.v 0) (.i (.v 0) .nil))), true), ((.le (.c 0) (.v 20)), true), ((.le (.v 20) tp0e3), true), ((.le (.v 20) (.c 1000)), true), ((.lt tp0e5 (.v 1)), false)]
noncomputable def tp0x2 : Vl := .dead [((.eq tp0e2 (.v 2)), false), ((.eq tp0e2 (.v 1)), true), ((.lt (.v 20) (.v 0)), true), ((.le (.c 0) (.v 0)), true), ((.le (.v 0) (.c 1000)), true), ((.le (.c 0) (.v 1)), true), ((.le (.v 1) (.c 255)), true), ((.eq (.v 2) (.v 1)), true), ((.eq (.v 3) (.v 1)), true), ((.ap 1 (.a (.v 0) (.i (.v 0) .nil))), true), ((.le (.c 0) (.v 20)), true), ((.le (.v 20) tp0e3), true), ((.le (.v 20) (.c 1000)), true), ((.lt tp0e5 (.v 1)), false)]
noncomputable def tp0x3 : Vl := .out 0 [.b (.v 0) (.v 0), .i (.v 10) (.v 10), .i (.v 11) (.v 11), .i (.v 10) (.v 10), .i (.v 9) (.v 9), .i (.v 12) (.v 12), .i (.v 13) (.v 13), .i (.v 14) (.v 14), .p 1002 (.i tp0e6 (.i (.v 9) (.a tp0e7 .nil))) (.i tp0e0 (.i (.v 9) (.a tp0e1 .nil)))] [((.lt (.v 1) tp0e2), true), ((.eq tp0e2 (.v 1)), false), ((.lt (.v 20) (.v 0)), true), ((.le (.c 0) (.v 0)), true), ((.le (.v 0) (.c 1000)), true), ((.le (.c 0) (.v 1)), true), ((.le (.v 1) (.c 255)), true), ((.eq (.v 2) (.v 1)), true), ((.eq (.v 3) (.v 1)), true), ((.ap 1 (.a (.v 0) (.i (.v 0) .nil))), true), ((.le (.c 0) (.v 20)), true), ((.le (.v 20) tp0e3), true), ((.le (.v 20) (.c 1000)), true), ((.lt tp0e5 (.v 1)), false)]
noncomputable def tp0x4 : Vl := .go 0 [(20, tp0e8)] [] [] [((.lt (.v 1) tp0e2), false), ((.eq tp0e2 (.v 1)), false), ((.lt (.v 20) (.v 0)), true), ((.le (.c 0) (.v 0)), true), ((.le (.v 0) (.c 1000)), true), ((.le (.c 0) (.v 1)), true), ((.le (.v 1) (.c 255)), true), ((.eq (.v 2) (.v 1)), true), ((.eq (.v 3) (.v 1)), true), ((.ap 1 (.a (.v 0) (.i (.v 0) .nil))), true), ((.le (.c 0) (.v 20)), true), ((.le (.v 20) tp0e3), true), ((.le (.v 20) (.c 1000)), true), ((.lt tp0e5 (.v 1)), false)] (.exit .normal) (.loop (loopB (prm46 Tryd.prog).P 46 5) :: loopK (prm46 Tryd.prog).P 46 5)
noncomputable def tp0x5 : Vl := .out 0 [.b (.v 0) (.v 0), .i (.v 10) (.v 10), .i (.v 11) (.v 11), .i (.v 10) (.v 10), .i (.v 9) (.v 9), .i (.v 12) (.v 12), .i (.v 13) (.v 13), .i (.v 14) (.v 14), .p 1002 (.i (.v 0) (.i (.v 9) (.a (.v 0) .nil))) (.i tp0e0 (.i (.v 9) (.a tp0e1 .nil)))] [((.lt (.v 20) (.v 0)), false), ((.le (.c 0) (.v 0)), true), ((.le (.v 0) (.c 1000)), true), ((.le (.c 0) (.v 1)), true), ((.le (.v 1) (.c 255)), true), ((.eq (.v 2) (.v 1)), true), ((.eq (.v 3) (.v 1)), true), ((.ap 1 (.a (.v 0) (.i (.v 0) .nil))), true), ((.le (.c 0) (.v 20)), true), ((.le (.v 20) tp0e3), true), ((.le (.v 20) (.c 1000)), true), ((.lt tp0e5 (.v 1)), false)]
noncomputable def tp0ls : List Vl := [tp0x0, tp0x1, tp0x2, tp0x3, tp0x4, tp0x5]
theorem tp0run : (run (prm46 Tryd.prog) 900 (ptD (pts46 Tryd.prog tokT [.any]) 0 46)).map (vOf (prm46 Tryd.prog) ct46t (pts46 Tryd.prog tokT [.any])) = tp0ls := by kernel_rfl
-- 6 ways; terms: tp0e0, tp0e1, tp0e2, tp0e3, tp0e4, tp0e5, tp0e6, tp0e7, tp0e8
theorem prm46_ok (E : Env) (hE : E.fn = fns) : PrmOk E (prm46 Tryd.prog) where
  bt := by intro b hb; rw [hE]; exact btQ_ok b hb
  ct := by
    intro c hc
    have : c = ct49 := by simpa [prm46] using hc
    subst this; rw [hE]; exact ct49_ok
  mix := Checked.mixed Tryd.checked
  okf := okf_call
  body := okf_body
  mts := by intro x hx; cases hx
  dfr := by intro x hx; cases hx
  dfk := by intro x hx; cases hx
structure Sm (m : Nat) (E0 E : Env) : Prop where
  i : ∀ k, k ≠ m → E.i k = E0.i k
  b : E.b = E0.b
  a : E.a = E0.a
theorem Sm.put {m : Nat} {E0 E : Env} (h : Sm m E0 E) (x : SE) (o : Nat → Value) : Sm m E0 (E.put [(m, x)] [] [] o) where
  i k hk := by
    show (match fnd k [(m, x)] with | some e => e.den E | none => E.i k) = _
    simp only [fnd, if_neg (Ne.symm hk)]; exact h.i k hk
  b := h.b
  a := h.a
theorem Sm.refl (m : Nat) (E : Env) : Sm m E E := ⟨fun _ _ => rfl, rfl, rfl⟩
theorem f3_den {E : Env} (hE : E.fn = fns) (A : AE) (n p : SE) : (f3 5 A n p).den E = putN (A.den E) (n.den E).toNat (p.den E) ∧ (f3 6 A n p).den E = kx (A.den E) (p.den E) (n.den E).toNat ∧ (a3 5 A n p).den E = putA (A.den E) (n.den E).toNat (p.den E) := by
  refine ⟨?_, ?_, ?_⟩ <;> (simp only [f3, a3, SE.den, AE.den, SL.den, hE]; rfl)
theorem a4_den {E : Env} (hE : E.fn = fns) (A : AE) (n i p : SE) : (a4 2 A n i p).den E = insA (A.den E) (n.den E).toNat (i.den E).toNat (p.den E) := by
  simp only [a4, SE.den, AE.den, SL.den, hE]; rfl
theorem put_no {A : Nat → Int} {n i : Nat} {s : Int} (h : kx A s n = i) (hn : ¬ (i < n ∧ A i = s)) : putN A n s = n + 1 ∧ putA A n s = insA A n i s := by
  unfold putN putA hasA
  rw [h]
  simp only [decide_eq_true_eq, if_neg hn, and_self]
theorem put_yes {A : Nat → Int} {n i : Nat} {s : Int} (h : kx A s n = i) (hn : i < n ∧ A i = s) : putN A n s = n ∧ putA A n s = A := by
  unfold putN putA hasA
  rw [h]
  simp only [decide_eq_true_eq, if_pos hn, and_self]
theorem tl_ins {E : Env} {n : Nat} (hn : E.i 0 = n) : (AE.tl (.v 0) (.v 0) (.i (.v 1) .nil)).den E = insA (E.a 0) n n (E.i 1) := by
  funext j
  simp only [AE.den, SE.den, hn, Int.toNat_natCast, insA]
  by_cases h1 : j < n
  · rw [if_pos h1, if_pos h1]
  · rw [if_neg h1, if_neg h1]
    by_cases h2 : j = n
    · subst h2; rw [if_pos rfl, Nat.sub_self]; rfl
    · rw [if_neg h2, if_neg (by omega)]
      obtain ⟨m, hm⟩ : ∃ m, j - n = m + 1 := ⟨j - n - 1, by omega⟩
      rw [hm]; rfl
theorem srt_of {E : Env} (hE : E.fn = fns) (A : AE) (n : SE) (h : (srt A n).1.den E = true) : Srt (A.den E) (n.den E).toNat := by
  have e' : E.fn.g 1 [.a (A.den E), .i (n.den E)] = true := h
  rw [hE] at e'
  have e2 : @decide (Srt (A.den E) (n.den E).toNat) (Classical.propDecidable _) = true := e'
  exact @of_decide_eq_true _ (Classical.propDecidable _) e2
theorem pre46 {E0 : Env} {tok : SV} {ex : List SBlk} (hE : E0.fn = fns) (hF : Facts E0 (ct46 tok ex).pre) : (0 ≤ E0.i 0 ∧ E0.i 0 ≤ 1000) ∧ (0 ≤ E0.i 1 ∧ E0.i 1 ≤ 255) ∧ E0.i 2 = E0.i 1 ∧ E0.i 3 = E0.i 1 ∧ Srt (E0.a 0) (E0.i 0).toNat := by
  have hF' : Facts E0 [((.le (.c 0) (.v 0)), true), ((.le (.v 0) (.c 1000)), true), ((.le (.c 0) (.v 1)), true), ((.le (.v 1) (.c 255)), true), ((.eq (.v 2) (.v 1)), true), ((.eq (.v 3) (.v 1)), true), ((.ap 1 (.a (.v 0) (.i (.v 0) .nil))), true)] := hF
  simp only [facts_cons, facts_nil, le_t, eq_t, d_c, d_v, and_true] at hF'
  obtain ⟨a, b, c, d, e, f, g⟩ := hF'
  exact ⟨⟨a, b⟩, ⟨c, d⟩, e, f, srt_of hE (.v 0) (.v 0) g⟩
structure I46 (E0 E : Env) (i : Nat) : Prop where
  s : Sm 20 E0 E
  i20 : E.i 20 = i
  le : i ≤ kx (E0.a 0) (E0.i 1) (E0.i 0).toNat
  ne : E0.i 0 ≠ 0
  last : ¬ E0.a 0 (E0.i 0 - 1).toNat < E0.i 1
theorem ct46n_ok : CtOk Tryd.prog fns ct46n := by
  refine ct_of_pts (p := prm46 Tryd.prog) (pts := pts46 Tryd.prog .nilptr []) (n := 900) (c0 := enterD (prm46 Tryd.prog) ct46n) (fun E hE => prm46_ok E hE) rfl (by intro q hq; cases hq) Tryd.func46 (by kernel_rfl) ?_ (fun E0 _ E => ∃ i, I46 E0 E i) (fun E0 _ E => (E0.i 0 - E.i 20).toNat) nals (by kernel_rfl) ?_ ?_
  · intro t ht
    simp only [pts46, List.mem_cons, List.not_mem_nil, or_false] at ht
    subst ht
    exact ⟨by kernel_rfl, by decide⟩
  · intro E hE hF
    obtain ⟨⟨n0, n1⟩, ⟨s0, s1⟩, e2, e3, hs⟩ := pre46 hE hF
    obtain ⟨n, hn⟩ : ∃ n : Nat, E.i 0 = n := ⟨(E.i 0).toNat, by omega⟩
    have hnt : (E.i 0).toNat = n := by omega
    rw [hnt] at hs
    refine ⟨fun a ha => ?_, fun x hx => ?_⟩
    · obtain rfl := Option.some.inj ha; intro q hq; cases hq
    · unfold nals at hx
      simp only [List.mem_cons, List.not_mem_nil, or_false] at hx
      have fin : kx (E.a 0) (E.i 1) n = n → ∀ q ∈ ([.b (.v 0) (.v 0), .i (.v 10) (.v 10), .i (.v 11) (.v 11), .i (.v 10) (.v 10), .i (.v 9) (.v 9), .i (.v 12) (.v 12), .i (.v 13) (.v 13), .i (.v 14) (.v 14), .p 1002 (.i nae0 (.i (.v 9) (.a nae1 .nil))) (.i nae2 (.i (.v 9) (.a nae3 .nil)))] : List Eqn), q.ok E E := fun hk => by
        obtain ⟨k1, k2⟩ := put_no hk (fun h => absurd h.1 (by omega))
        simp only [List.forall_mem_cons, List.not_mem_nil, false_imp_iff, implies_true, and_true, true_and, Eqn.ok]
        refine Eqn.p_of rfl ?_
        have h1 : nae0.den E = nae2.den E := by
          have := (f3_den hE (.v 0) (.v 0) (.v 1)).1
          show E.i 0 + 1 = (f3 5 (.v 0) (.v 0) (.v 1)).den E
          rw [this, d_v, hnt]
          show _ = ((putN (E.a 0) n (E.i 1) : Nat) : Int)
          rw [k1]; omega
        have h2 : nae1.den E = nae3.den E := by
          have := (f3_den hE (.v 0) (.v 0) (.v 1)).2.2
          show _ = (a3 5 (.v 0) (.v 0) (.v 1)).den E
          rw [this, d_v, hnt]
          show _ = putA (E.a 0) n (E.i 1)
          rw [k2]; exact tl_ins hn
        simp only [SL.den, h1, h2]
      rcases hx with rfl | rfl | rfl | rfl | rfl
      · intro hf
        refine ⟨rfl, fin ?_⟩
        have := hf (SB.eq (.v 0) (.c 0), true) (by simp)
        simp only [eq_t, d_v, d_c] at this
        have hn0 : n = 0 := by omega
        rw [hn0]; rfl
      · intro hf
        refine ⟨rfl, fin ?_⟩
        have h1 := hf (SB.lt nae5 (.v 1), true) (by simp)
        have h2 := hf (SB.le (.c 0) nae4, true) (by simp)
        have h1' : E.a 0 (E.i 0 - 1).toNat < E.i 1 := by rw [lt_t] at h1; exact h1
        have h2' : 0 ≤ E.i 0 - 1 := by rw [le_t] at h2; exact h2
        have hm : (E.i 0 - 1).toNat = n - 1 := by omega
        rw [hm] at h1'
        refine kx_eq (Nat.le_refl _) (fun j hj => ?_) (fun h => absurd h (Nat.lt_irrefl _))
        rcases Nat.lt_or_ge j (n - 1) with h | h
        · have := hs.2 j (n - 1) h (by omega); omega
        · have : j = n - 1 := by omega
          rw [this]; exact h1'
      · intro hf
        refine ⟨⟨_, rfl, .inl ⟨rfl, rfl⟩⟩, fun o => ⟨⟨0, (Sm.refl 20 E).put _ o, rfl, Nat.zero_le _, ?_, ?_⟩, fun b hb => by cases hb⟩⟩
        · have := hf (SB.eq (.v 0) (.c 0), false) (by simp)
          intro h0
          have : ¬ E.i 0 = 0 := by simpa [SB.den, SE.den] using this
          exact this h0
        · have h1 := hf (SB.lt nae5 (.v 1), false) (by simp)
          intro h
          rw [lt_f] at h1
          exact absurd h (Int.not_lt.2 h1)
      · intro hf
        have h1 := hf (SB.lt nae4 (.v 0), false) (by simp)
        have h1' : E.i 0 ≤ E.i 0 - 1 := by rw [lt_f] at h1; exact h1
        omega
      · intro hf
        have h1 := hf (SB.le (.c 0) nae4, false) (by simp)
        have h1' : E.i 0 - 1 < 0 := by rw [le_f] at h1; exact h1
        have := hf (SB.eq (.v 0) (.c 0), false) (by simp)
        have : ¬ E.i 0 = 0 := by simpa [SB.den, SE.den] using this
        omega
  · intro k t ht
    have hk : k = 0 := by
      have := (List.getElem?_eq_some_iff.1 ht).1
      simp [pts46] at this; omega
    subst hk
    refine ⟨np0ls, by rw [← ptD_some ht ct46n.g]; exact np0run, fun E0 E hE0 hE hF0 ⟨i, hI⟩ => ?_⟩
    obtain ⟨⟨n0, n1⟩, ⟨s0, s1⟩, e2, e3, hs⟩ := pre46 hE0 hF0
    obtain ⟨n, hn⟩ : ∃ n : Nat, E0.i 0 = n := ⟨(E0.i 0).toNat, by omega⟩
    have hnt : (E0.i 0).toNat = n := by omega
    obtain ⟨hS, h20, hle, hne, hlast⟩ := hI
    rw [hnt] at hs hle
    have hm : (E0.i 0 - 1).toNat = n - 1 := by omega
    rw [hm] at hlast
    have q0 := hS.i 0 (by decide); have q1 := hS.i 1 (by decide); have q2 := hS.i 2 (by decide); have q3 := hS.i 3 (by decide)
    have qa : E.a 0 = E0.a 0 := by rw [hS.a]
    have hkn : kx (E0.a 0) (E0.i 1) n < n := by
      rcases Nat.lt_or_ge (kx (E0.a 0) (E0.i 1) n) n with h | h
      · exact h
      · exact absurd (kx_lt (E0.a 0) (E0.i 1) n (n - 1) (by omega)) hlast
    have hkx : (f3 6 (.v 0) (.v 0) (.v 1)).den E = kx (E0.a 0) (E0.i 1) n := by
      rw [(f3_den hE _ _ _).2.1, d_v, d_v, q0, q1, hnt]
      show ((kx (E.a 0) (E0.i 1) n : Nat) : Int) = _
      rw [qa]
    have hrd : np0e2.den E = E0.a 0 i := by
      show E.a 0 (E.i 20).toNat = _
      rw [qa, h20]; rfl
    refine ⟨?_, fun x hx => ?_⟩
    · obtain rfl := Option.some.inj ht
      show Facts E ((ct46 .nilptr []).pre ++ [((.le (.c 0) (.v 20)), true), ((.le (.v 20) (f3 6 (.v 0) (.v 0) (.v 1))), true), ((.le (.v 20) (.c 1000)), true), ((.lt (.rd (.v 0) (.sub (.v 0) (.c 1))) (.v 1)), false)])
      have hsr : (srt (.v 0) (.v 0)).1.den E = true := by
        have := hF0 (srt (.v 0) (.v 0)) (by simp [ct46n, ct46])
        have e1 : E0.fn.g 1 [.a ((AE.v 0).den E0), .i (E0.i 0)] = true := this
        show E.fn.g 1 [.a ((AE.v 0).den E), .i (E.i 0)] = true
        rw [hE, ← hE0, q0]
        have : (AE.v 0).den E = (AE.v 0).den E0 := by funext j; simp only [AE.den, qa]
        rw [this]; exact e1
      show Facts E [((.le (.c 0) (.v 0)), true), ((.le (.v 0) (.c 1000)), true), ((.le (.c 0) (.v 1)), true), ((.le (.v 1) (.c 255)), true), ((.eq (.v 2) (.v 1)), true), ((.eq (.v 3) (.v 1)), true), ((srt (.v 0) (.v 0)).1, true), ((.le (.c 0) (.v 20)), true), ((.le (.v 20) (f3 6 (.v 0) (.v 0) (.v 1))), true), ((.le (.v 20) (.c 1000)), true), ((.lt (.rd (.v 0) (.sub (.v 0) (.c 1))) (.v 1)), false)]
      simp only [facts_cons, facts_nil, le_t, eq_t, lt_f, d_c, d_v, and_true, hkx]
      refine ⟨by omega, by omega, by omega, by omega, by omega, by omega, hsr, by omega, by omega, by omega, ?_⟩
      show E.i 1 ≤ E.a 0 (E.i 0 - 1).toNat
      rw [qa, q0, q1, hm]; exact Int.not_lt.1 hlast
    · unfold np0ls at hx
      simp only [List.mem_cons, List.not_mem_nil, or_false] at hx
      have fin : ∀ (N : SE) (A : AE), N.den E = putN (E0.a 0) n (E0.i 1) → A.den E = putA (E0.a 0) n (E0.i 1) → ∀ q ∈ ([.b (.v 0) (.v 0), .i (.v 10) (.v 10), .i (.v 11) (.v 11), .i (.v 10) (.v 10), .i (.v 9) (.v 9), .i (.v 12) (.v 12), .i (.v 13) (.v 13), .i (.v 14) (.v 14), .p 1002 (.i N (.i (.v 9) (.a A .nil))) (.i np0e0 (.i (.v 9) (.a np0e1 .nil)))] : List Eqn), q.ok E E0 := fun N A hN hA => by
        have qb : E.b 0 = E0.b 0 := by rw [hS.b]
        have q9 := hS.i 9 (by decide)
        simp only [List.forall_mem_cons, List.not_mem_nil, false_imp_iff, implies_true, and_true, true_and, Eqn.ok]
        refine ⟨qb, hS.i 10 (by decide), hS.i 11 (by decide), hS.i 10 (by decide), q9, hS.i 12 (by decide), hS.i 13 (by decide), hS.i 14 (by decide), Eqn.p_of (hE.trans hE0.symm) ?_⟩
        have h1 : N.den E = np0e0.den E0 := by
          rw [hN]
          refine Eq.trans ?_ ((f3_den hE0 (.v 0) (.v 0) (.v 1)).1).symm
          rw [d_v, hnt]; rfl
        have h2 : A.den E = np0e1.den E0 := by
          rw [hA]
          refine Eq.trans ?_ ((f3_den hE0 (.v 0) (.v 0) (.v 1)).2.2).symm
          rw [d_v, hnt]; rfl
        simp only [SL.den, h1, h2, d_v, q9]
      have hlt0 : (SB.lt (.v 20) (.v 0)).den E = true → i < n := fun h => by
        simp only [lt_t, d_v] at h; omega
      rcases hx with rfl | rfl | rfl | rfl | rfl | rfl
      · intro hf
        have h1 := hf (SB.eq np0e2 (.v 1), true) (by simp)
        have h2 := hlt0 (hf (SB.lt (.v 20) (.v 0), true) (by simp))
        simp only [eq_t, d_v, hrd, q1] at h1
        obtain ⟨k1, k2⟩ := put_yes (kx_at hle h2 (by omega)) ⟨h2, h1⟩
        exact ⟨rfl, fin (.v 0) (.v 0) (by rw [k1, d_v]; omega) (by rw [k2]; exact qa)⟩
      · intro hf
        have h1 := hf (SB.eq np0e2 (.v 1), true) (by simp)
        have h2 := hf (SB.eq np0e2 (.v 3), false) (by simp)
        have h2 : ¬ np0e2.den E = E.i 3 := by simpa [SB.den, SE.den] using h2
        simp only [eq_t, d_v] at h1
        exact h2 (by omega)
      · intro hf
        have h1 := hf (SB.eq np0e2 (.v 1), true) (by simp)
        have h2 := hf (SB.eq np0e2 (.v 2), false) (by simp)
        have h2 : ¬ np0e2.den E = E.i 2 := by simpa [SB.den, SE.den] using h2
        simp only [eq_t, d_v] at h1
        exact h2 (by omega)
      · intro hf
        have h1 := hf (SB.lt (.v 1) np0e2, true) (by simp)
        have h2 := hlt0 (hf (SB.lt (.v 20) (.v 0), true) (by simp))
        simp only [lt_t, d_v, hrd, q1] at h1
        obtain ⟨k1, k2⟩ := put_no (kx_at hle h2 (by omega)) (fun h => by omega)
        refine ⟨rfl, fin np0e6 np0e7 ?_ ?_⟩
        · show E.i 0 + 1 = _
          rw [k1]; omega
        · rw [k2]
          refine (a4_den hE (.v 0) (.v 0) (.v 20) (.v 1)).trans ?_
          rw [d_v, d_v, d_v, q0, h20, q1, hnt]
          show insA (E.a 0) n i (E0.i 1) = _
          rw [qa]
      · intro hf
        have h1 := hf (SB.lt (.v 1) np0e2, false) (by simp)
        have h3 := hf (SB.eq np0e2 (.v 1), false) (by simp)
        have h2 := hlt0 (hf (SB.lt (.v 20) (.v 0), true) (by simp))
        have h3 : ¬ np0e2.den E = E.i 1 := by simpa [SB.den, SE.den] using h3
        simp only [lt_f, d_v, hrd, q1] at h1
        rw [hrd, q1] at h3
        refine ⟨⟨_, rfl, .inr ⟨rfl, rfl⟩⟩, fun o => ⟨⟨i + 1, hS.put _ o, ?_, ?_, hne, by rw [hm]; exact hlast⟩, fun b hb => ?_⟩⟩
        · show E.i 20 + 1 = _
          omega
        · rw [hnt]; exact kx_step hle h2 (by omega)
        · obtain rfl := Option.some.inj hb
          show (E0.i 0 - (E.i 20 + 1)).toNat < _
          omega
      · intro hf
        have h1 := hf (SB.lt (.v 20) (.v 0), false) (by simp)
        simp only [lt_f, d_v] at h1
        omega
theorem ct46t_ok : CtOk Tryd.prog fns ct46t := by
  refine ct_of_pts (p := prm46 Tryd.prog) (pts := pts46 Tryd.prog tokT [.any]) (n := 900) (c0 := enterD (prm46 Tryd.prog) ct46t) (fun E hE => prm46_ok E hE) rfl (by intro q hq; cases hq) Tryd.func46 (by kernel_rfl) ?_ (fun E0 _ E => ∃ i, I46 E0 E i) (fun E0 _ E => (E0.i 0 - E.i 20).toNat) tals (by kernel_rfl) ?_ ?_
  · intro t ht
    simp only [pts46, List.mem_cons, List.not_mem_nil, or_false] at ht
    subst ht
    exact ⟨by kernel_rfl, by decide⟩
  · intro E hE hF
    obtain ⟨⟨n0, n1⟩, ⟨s0, s1⟩, e2, e3, hs⟩ := pre46 hE hF
    obtain ⟨n, hn⟩ : ∃ n : Nat, E.i 0 = n := ⟨(E.i 0).toNat, by omega⟩
    have hnt : (E.i 0).toNat = n := by omega
    rw [hnt] at hs
    refine ⟨fun a ha => ?_, fun x hx => ?_⟩
    · obtain rfl := Option.some.inj ha; intro q hq; cases hq
    · unfold tals at hx
      simp only [List.mem_cons, List.not_mem_nil, or_false] at hx
      have fin : kx (E.a 0) (E.i 1) n = n → ∀ q ∈ ([.b (.v 0) (.v 0), .i (.v 10) (.v 10), .i (.v 11) (.v 11), .i (.v 10) (.v 10), .i (.v 9) (.v 9), .i (.v 12) (.v 12), .i (.v 13) (.v 13), .i (.v 14) (.v 14), .p 1002 (.i tae0 (.i (.v 9) (.a tae1 .nil))) (.i tae2 (.i (.v 9) (.a tae3 .nil)))] : List Eqn), q.ok E E := fun hk => by
        obtain ⟨k1, k2⟩ := put_no hk (fun h => absurd h.1 (by omega))
        simp only [List.forall_mem_cons, List.not_mem_nil, false_imp_iff, implies_true, and_true, true_and, Eqn.ok]
        refine Eqn.p_of rfl ?_
        have h1 : tae0.den E = tae2.den E := by
          have := (f3_den hE (.v 0) (.v 0) (.v 1)).1
          show E.i 0 + 1 = (f3 5 (.v 0) (.v 0) (.v 1)).den E
          rw [this, d_v, hnt]
          show _ = ((putN (E.a 0) n (E.i 1) : Nat) : Int)
          rw [k1]; omega
        have h2 : tae1.den E = tae3.den E := by
          have := (f3_den hE (.v 0) (.v 0) (.v 1)).2.2
          show _ = (a3 5 (.v 0) (.v 0) (.v 1)).den E
          rw [this, d_v, hnt]
          show _ = putA (E.a 0) n (E.i 1)
          rw [k2]; exact tl_ins hn
        simp only [SL.den, h1, h2]
      rcases hx with rfl | rfl | rfl | rfl | rfl
      · intro hf
        refine ⟨rfl, fin ?_⟩
        have := hf (SB.eq (.v 0) (.c 0), true) (by simp)
        simp only [eq_t, d_v, d_c] at this
        have hn0 : n = 0 := by omega
        rw [hn0]; rfl
      · intro hf
        refine ⟨rfl, fin ?_⟩
        have h1 := hf (SB.lt tae5 (.v 1), true) (by simp)
        have h2 := hf (SB.le (.c 0) tae4, true) (by simp)
        have h1' : E.a 0 (E.i 0 - 1).toNat < E.i 1 := by rw [lt_t] at h1; exact h1
        have h2' : 0 ≤ E.i 0 - 1 := by rw [le_t] at h2; exact h2
        have hm : (E.i 0 - 1).toNat = n - 1 := by omega
        rw [hm] at h1'
        refine kx_eq (Nat.le_refl _) (fun j hj => ?_) (fun h => absurd h (Nat.lt_irrefl _))
        rcases Nat.lt_or_ge j (n - 1) with h | h
        · have := hs.2 j (n - 1) h (by omega); omega
        · have : j = n - 1 := by omega
          rw [this]; exact h1'
      · intro hf
        refine ⟨⟨_, rfl, .inl ⟨rfl, rfl⟩⟩, fun o => ⟨⟨0, (Sm.refl 20 E).put _ o, rfl, Nat.zero_le _, ?_, ?_⟩, fun b hb => by cases hb⟩⟩
        · have := hf (SB.eq (.v 0) (.c 0), false) (by simp)
          intro h0
          have : ¬ E.i 0 = 0 := by simpa [SB.den, SE.den] using this
          exact this h0
        · have h1 := hf (SB.lt tae5 (.v 1), false) (by simp)
          intro h
          rw [lt_f] at h1
          exact absurd h (Int.not_lt.2 h1)
      · intro hf
        have h1 := hf (SB.lt tae4 (.v 0), false) (by simp)
        have h1' : E.i 0 ≤ E.i 0 - 1 := by rw [lt_f] at h1; exact h1
        omega
      · intro hf
        have h1 := hf (SB.le (.c 0) tae4, false) (by simp)
        have h1' : E.i 0 - 1 < 0 := by rw [le_f] at h1; exact h1
        have := hf (SB.eq (.v 0) (.c 0), false) (by simp)
        have : ¬ E.i 0 = 0 := by simpa [SB.den, SE.den] using this
        omega
  · intro k t ht
    have hk : k = 0 := by
      have := (List.getElem?_eq_some_iff.1 ht).1
      simp [pts46] at this; omega
    subst hk
    refine ⟨tp0ls, by rw [← ptD_some ht ct46t.g]; exact tp0run, fun E0 E hE0 hE hF0 ⟨i, hI⟩ => ?_⟩
    obtain ⟨⟨n0, n1⟩, ⟨s0, s1⟩, e2, e3, hs⟩ := pre46 hE0 hF0
    obtain ⟨n, hn⟩ : ∃ n : Nat, E0.i 0 = n := ⟨(E0.i 0).toNat, by omega⟩
    have hnt : (E0.i 0).toNat = n := by omega
    obtain ⟨hS, h20, hle, hne, hlast⟩ := hI
    rw [hnt] at hs hle
    have hm : (E0.i 0 - 1).toNat = n - 1 := by omega
    rw [hm] at hlast
    have q0 := hS.i 0 (by decide); have q1 := hS.i 1 (by decide); have q2 := hS.i 2 (by decide); have q3 := hS.i 3 (by decide)
    have qa : E.a 0 = E0.a 0 := by rw [hS.a]
    have hkn : kx (E0.a 0) (E0.i 1) n < n := by
      rcases Nat.lt_or_ge (kx (E0.a 0) (E0.i 1) n) n with h | h
      · exact h
      · exact absurd (kx_lt (E0.a 0) (E0.i 1) n (n - 1) (by omega)) hlast
    have hkx : (f3 6 (.v 0) (.v 0) (.v 1)).den E = kx (E0.a 0) (E0.i 1) n := by
      rw [(f3_den hE _ _ _).2.1, d_v, d_v, q0, q1, hnt]
      show ((kx (E.a 0) (E0.i 1) n : Nat) : Int) = _
      rw [qa]
    have hrd : tp0e2.den E = E0.a 0 i := by
      show E.a 0 (E.i 20).toNat = _
      rw [qa, h20]; rfl
    refine ⟨?_, fun x hx => ?_⟩
    · obtain rfl := Option.some.inj ht
      show Facts E ((ct46 tokT [.any]).pre ++ [((.le (.c 0) (.v 20)), true), ((.le (.v 20) (f3 6 (.v 0) (.v 0) (.v 1))), true), ((.le (.v 20) (.c 1000)), true), ((.lt (.rd (.v 0) (.sub (.v 0) (.c 1))) (.v 1)), false)])
      have hsr : (srt (.v 0) (.v 0)).1.den E = true := by
        have := hF0 (srt (.v 0) (.v 0)) (by simp [ct46t, ct46])
        have e1 : E0.fn.g 1 [.a ((AE.v 0).den E0), .i (E0.i 0)] = true := this
        show E.fn.g 1 [.a ((AE.v 0).den E), .i (E.i 0)] = true
        rw [hE, ← hE0, q0]
        have : (AE.v 0).den E = (AE.v 0).den E0 := by funext j; simp only [AE.den, qa]
        rw [this]; exact e1
      show Facts E [((.le (.c 0) (.v 0)), true), ((.le (.v 0) (.c 1000)), true), ((.le (.c 0) (.v 1)), true), ((.le (.v 1) (.c 255)), true), ((.eq (.v 2) (.v 1)), true), ((.eq (.v 3) (.v 1)), true), ((srt (.v 0) (.v 0)).1, true), ((.le (.c 0) (.v 20)), true), ((.le (.v 20) (f3 6 (.v 0) (.v 0) (.v 1))), true), ((.le (.v 20) (.c 1000)), true), ((.lt (.rd (.v 0) (.sub (.v 0) (.c 1))) (.v 1)), false)]
      simp only [facts_cons, facts_nil, le_t, eq_t, lt_f, d_c, d_v, and_true, hkx]
      refine ⟨by omega, by omega, by omega, by omega, by omega, by omega, hsr, by omega, by omega, by omega, ?_⟩
      show E.i 1 ≤ E.a 0 (E.i 0 - 1).toNat
      rw [qa, q0, q1, hm]; exact Int.not_lt.1 hlast
    · unfold tp0ls at hx
      simp only [List.mem_cons, List.not_mem_nil, or_false] at hx
      have fin : ∀ (N : SE) (A : AE), N.den E = putN (E0.a 0) n (E0.i 1) → A.den E = putA (E0.a 0) n (E0.i 1) → ∀ q ∈ ([.b (.v 0) (.v 0), .i (.v 10) (.v 10), .i (.v 11) (.v 11), .i (.v 10) (.v 10), .i (.v 9) (.v 9), .i (.v 12) (.v 12), .i (.v 13) (.v 13), .i (.v 14) (.v 14), .p 1002 (.i N (.i (.v 9) (.a A .nil))) (.i tp0e0 (.i (.v 9) (.a tp0e1 .nil)))] : List Eqn), q.ok E E0 := fun N A hN hA => by
        have qb : E.b 0 = E0.b 0 := by rw [hS.b]
        have q9 := hS.i 9 (by decide)
        simp only [List.forall_mem_cons, List.not_mem_nil, false_imp_iff, implies_true, and_true, true_and, Eqn.ok]
        refine ⟨qb, hS.i 10 (by decide), hS.i 11 (by decide), hS.i 10 (by decide), q9, hS.i 12 (by decide), hS.i 13 (by decide), hS.i 14 (by decide), Eqn.p_of (hE.trans hE0.symm) ?_⟩
        have h1 : N.den E = tp0e0.den E0 := by
          rw [hN]
          refine Eq.trans ?_ ((f3_den hE0 (.v 0) (.v 0) (.v 1)).1).symm
          rw [d_v, hnt]; rfl
        have h2 : A.den E = tp0e1.den E0 := by
          rw [hA]
          refine Eq.trans ?_ ((f3_den hE0 (.v 0) (.v 0) (.v 1)).2.2).symm
          rw [d_v, hnt]; rfl
        simp only [SL.den, h1, h2, d_v, q9]
      have hlt0 : (SB.lt (.v 20) (.v 0)).den E = true → i < n := fun h => by
        simp only [lt_t, d_v] at h; omega
      rcases hx with rfl | rfl | rfl | rfl | rfl | rfl
      · intro hf
        have h1 := hf (SB.eq tp0e2 (.v 1), true) (by simp)
        have h2 := hlt0 (hf (SB.lt (.v 20) (.v 0), true) (by simp))
        simp only [eq_t, d_v, hrd, q1] at h1
        obtain ⟨k1, k2⟩ := put_yes (kx_at hle h2 (by omega)) ⟨h2, h1⟩
        exact ⟨rfl, fin (.v 0) (.v 0) (by rw [k1, d_v]; omega) (by rw [k2]; exact qa)⟩
      · intro hf
        have h1 := hf (SB.eq tp0e2 (.v 1), true) (by simp)
        have h2 := hf (SB.eq tp0e2 (.v 3), false) (by simp)
        have h2 : ¬ tp0e2.den E = E.i 3 := by simpa [SB.den, SE.den] using h2
        simp only [eq_t, d_v] at h1
        exact h2 (by omega)
      · intro hf
        have h1 := hf (SB.eq tp0e2 (.v 1), true) (by simp)
        have h2 := hf (SB.eq tp0e2 (.v 2), false) (by simp)
        have h2 : ¬ tp0e2.den E = E.i 2 := by simpa [SB.den, SE.den] using h2
        simp only [eq_t, d_v] at h1
        exact h2 (by omega)
      · intro hf
        have h1 := hf (SB.lt (.v 1) tp0e2, true) (by simp)
        have h2 := hlt0 (hf (SB.lt (.v 20) (.v 0), true) (by simp))
        simp only [lt_t, d_v, hrd, q1] at h1
        obtain ⟨k1, k2⟩ := put_no (kx_at hle h2 (by omega)) (fun h => by omega)
        refine ⟨rfl, fin tp0e6 tp0e7 ?_ ?_⟩
        · show E.i 0 + 1 = _
          rw [k1]; omega
        · rw [k2]
          refine (a4_den hE (.v 0) (.v 0) (.v 20) (.v 1)).trans ?_
          rw [d_v, d_v, d_v, q0, h20, q1, hnt]
          show insA (E.a 0) n i (E0.i 1) = _
          rw [qa]
      · intro hf
        have h1 := hf (SB.lt (.v 1) tp0e2, false) (by simp)
        have h3 := hf (SB.eq tp0e2 (.v 1), false) (by simp)
        have h2 := hlt0 (hf (SB.lt (.v 20) (.v 0), true) (by simp))
        have h3 : ¬ tp0e2.den E = E.i 1 := by simpa [SB.den, SE.den] using h3
        simp only [lt_f, d_v, hrd, q1] at h1
        rw [hrd, q1] at h3
        refine ⟨⟨_, rfl, .inr ⟨rfl, rfl⟩⟩, fun o => ⟨⟨i + 1, hS.put _ o, ?_, ?_, hne, by rw [hm]; exact hlast⟩, fun b hb => ?_⟩⟩
        · show E.i 20 + 1 = _
          omega
        · rw [hnt]; exact kx_step hle h2 (by omega)
        · obtain rfl := Option.some.inj hb
          show (E0.i 0 - (E.i 20 + 1)).toNat < _
          omega
      · intro hf
        have h1 := hf (SB.lt (.v 20) (.v 0), false) (by simp)
        simp only [lt_f, d_v] at h1
        omega
end Go.Proofs.YtjanndmmhjnpcaaDoor
