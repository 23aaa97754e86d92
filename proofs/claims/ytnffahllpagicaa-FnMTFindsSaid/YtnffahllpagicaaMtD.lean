/- The law's contract, as patterns, and its point. -/
import Derived.Test.YtnffahllpagicaaMtC
set_option linter.unusedVariables false
namespace Go.Proofs.Ytnffahllpagicaa
open Go Go.Sy

/-- Is a probe sent? -/
def ct5 : Ct where
  g := 5
  args := []
  heap := []
  pre := []
  alts := [{ res := .bool (.c true), post := [] }]
def prm5 (P : Program) : Prm := { P, gm := [], okf, mts := [], dfr := [], sl := [], ct := [ct4] }
def ct3 : Ct where
  g := 3
  args := [.int .u8 (.v 0), .int .u16 (.v 1), .int .u16 (.v 2), .int .u8 (.v 3)]
  heap := []
  pre := bd (.v 0) 0 255 ++ bd (.v 1) 0 65535 ++ bd (.v 2) 0 65535 ++ bd (.v 3) 0 255
  alts := [{ res := .bool (.c true), post := [] }]
def prm3 (P : Program) : Prm := { P, gm := [], okf, mts := [], dfr := [], sl := [(3, 8)], ct := [ct4, ct5], hint := [] }
/-- 4 the least size, 5 the most, 6 the path's, 7 how many steps, 8 what is known, 9 the time, 10 the round. -/
def pts3 (P : Program) : List Pt := [
  { r := 8, b := loopB P 3 8, K := loopK P 3 8, n := 146, tmps := [(9, .int .i64 (.v 4)), (10, .int .i64 (.v 5)), (11, .int .i64 (.v 6)), (12, .own 0), (13, .int .i64 (.v 8)), (14, .int .i64 (.v 9)), (15, .int .i64 (.v 10))], heap := [.row (.v 0) rowI (.v 7) [] 24], facts := bd (.v 4) 1200 1455 ++ bd (.v 5) 1200 2478 ++ bd (.v 6) 1200 2478 ++ bd (.v 7) 0 100 ++ bd (.v 8) 0 4096 ++ bd (.v 9) 0 1000000000000 ++ bd (.v 10) 0 40 }]
end Go.Proofs.Ytnffahllpagicaa
