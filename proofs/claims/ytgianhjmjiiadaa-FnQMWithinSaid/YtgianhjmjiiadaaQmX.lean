/- What application data ask: is it missing, are there new ones missing, is a frame to be queued. -/
import Derived.Test.YtgianhjmjiiadaaQmC
set_option autoImplicit true
set_option relaxedAutoImplicit true
set_option linter.unusedVariables false
namespace Go.Proofs.Ytgianhjmjiiadaa
open Go Go.Sy
def hpT : List SBlk := [hdV (.own 1) laT, iv0, .any, .any, frB 5 (.v 41) (.v 42) (.v 43) (.v 44), rw67 (.v 2) (.v 40)]
def msE : SB := .ap 21 (.i (.v 36) (.i (.v 1) (.a (.v 2) (.i (.v 40) .nil))))
def nmE : SB := .ap 22 (.a (.v 0) (.i (.v 0) (.i (.v 35) (.i (.v 6) (.a (.v 2) .nil)))))
def ct41t : Ct where
  g := 41
  args := [trk, .int .i64 (.v 1)]
  heap := hpT
  pre := bd (.v 1) 0 400 ++ bd (.v 40) 1 61 ++ [rdF]
  alts := [{ res := .bool msE, post := hpT }]
def prm41t (P : Program) : Prm := { P, gm := [], okf, mts := [], dfr := [], sl := [], ct := [ct53] }
def ct54t : Ct where
  g := 54
  args := [trk]
  heap := hpT
  pre := bd (.v 0) 1 61 ++ bd (.v 35) 0 401 ++ bd (.v 6) (-1) 1000 ++ bd (.v 40) 1 61 ++ [rgF (.v 0) (.v 0), rdF]
  alts := [{ res := .bool nmE, post := hpT }]
def prm54t (P : Program) : Prm := { P, gm := [], okf, mts := [], dfr := [], sl := [], ct := [ct61 laT an3], hint := [(54, 10, bd (.rd (.v 2) (.c 1)) 0 1000)] }
end Go.Proofs.Ytgianhjmjiiadaa
