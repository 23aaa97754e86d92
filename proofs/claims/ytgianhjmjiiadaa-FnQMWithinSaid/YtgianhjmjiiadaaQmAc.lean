/- slices.Equal, the first script, the steps and the law, as patterns. -/
import Derived.Test.YtgianhjmjiiadaaQmB
import Derived.Test.YtgianhjmjiiadaaQmAa
import Derived.Test.YtgianhjmjiiadaaSyNt
set_option autoImplicit true
set_option relaxedAutoImplicit true
set_option linter.unusedVariables false
namespace Go.Proofs.Ytgianhjmjiiadaa
open Go Go.Sy
def ix1 : SE := idxE 1 0
def btN : List Bt := [btNsLen 32 1000 ix1 idxP, btNpIx 32 1000 ix1 idxP, btNpIn 36 1000 ix1 idxP, btNpLd 2 1000 ix1 idxP 128 .i64, btNpAll 36 1000 ix1 idxP 128 .i64]
def rw36 : SBlk := .row (.v 50) [.int .i64, .int .i64] (.v 50) [] 36
def ct12 : Ct where
  g := 12
  args := [nsV ix1, .own 1]
  heap := [recV 1000, rw36]
  pre := idxP ++ bd (.v 50) 0 64 ++ bd (.rd (.v 2) ix1) 0 64
  alts := [{ res := .bool (.ap 12 (.a (.v 4) (.i (SE.mkMul ix1 (.c 128)) (.i (.rd (.v 2) ix1) (.a (.v 50) (.i (.v 50) .nil)))))), post := [recV 1000, rw36] }]
def prm12 (P : Program) : Prm := { P, gm := [], okf, mts := [], dfr := [], sl := [(12, 4)], ct := [], bt := btN }
def pts12 (P : Program) : List Pt := [
  { r := 4, b := loopB P 12 4, K := loopK P 12 4, n := 26, tmps := [(0, nsV ix1), (1, .own 1), (12, .int .i64 (.rd (.v 2) ix1)), (13, .int .i64 (.v 130))], ds := [], heap := ct12.heap, facts := ct12.pre ++ bd (.v 130) 0 64 ++ [((.eq (.rd (.v 2) ix1) (.v 50)), true)] }]
def btR : List Bt := [btRecApp 29 1000 1 rq, btRecLen 29 1000, btRecIx 29 1000 rq, btRecLd 4 1000 rq 0, btRecLd 32 1000 rq 2]
def ct9 : Ct where
  g := 9
  args := []
  heap := []
  alts := [{ res := .bool (.c true), post := [] }]
def prm9 (P : Program) : Prm := { P, gm := [], okf, mts := [], dfr := [13], sl := [], ct := [ct33kn, ct12], bt := btR, recs := true }
end Go.Proofs.Ytgianhjmjiiadaa
