/- The steps that bytes make, as patterns. -/
import Derived.Test.YtgianhjmjiiadaaQmAc
set_option autoImplicit true
set_option relaxedAutoImplicit true
set_option linter.unusedVariables false
namespace Go.Proofs.Ytgianhjmjiiadaa
open Go Go.Sy
def codeB : SBlk := .arr (.v 0) [.int .u8] (.v 1)
def code0 : SV := .slice 0 Off.z (.v 1) (.v 3)
def codeF : Fx := [((.le (.c 0) (.v 1)), true), ((.le (.v 1) (.v 3)), true), ((.ap 16 (.a (.v 0) (.i (.v 1) .nil))), true)]
def ct6 : Ct where
  g := 6
  args := [.int .i64 (.v 30), code0]
  heap := [codeB]
  pre := bd (.v 30) 0 2 ++ codeF ++ [((.le (.v 1) (.c 2147483647)), true)]
  alts := [{ res := .own 1, post := [codeB, .row (.v 500) sk8 (.v 500) [] 26], xf := bd (.v 500) 0 60 ++ [((.ap 11 (.a (.v 500) (.i (.v 500) (.i (.v 30) .nil)))), true)] }]
  nx := 1
def prm6 (P : Program) : Prm := { P, gm := [], okf, mts := [], dfr := [], sl := [(6, 4)], ct := [], hint := [(6, 6, bd (.rd (.v 0) (.v 130)) 0 255 ++ bd (.rd (.v 0) (.add (.v 130) (.c 1))) 0 255 ++ bd (.rd (.v 0) (.add (.v 130) (.c 2))) 0 255)] }
def pts6 (P : Program) : List Pt := [
  { r := 4, b := loopB P 6 4, K := loopK P 6 4, n := 134, tmps := [(0, .int .i64 (.v 30)), (1, code0), (5, .own 1), (6, .int .i64 (.v 132)), (7, .int .i64 (.v 133)), (8, .int .i64 (.v 134)), (9, .int .i64 (.v 130))], ds := [], heap := [codeB, .row (.v 121) sk8 (.v 131) [] 26],
    facts := ct6.pre ++ bd (.v 130) 0 180 ++ bd (.v 131) 0 60 ++ bd (.v 132) 1000000 700000000 ++ bd (.v 133) 0 99 ++ bd (.v 134) (-1) 99 }]
end Go.Proofs.Ytgianhjmjiiadaa
