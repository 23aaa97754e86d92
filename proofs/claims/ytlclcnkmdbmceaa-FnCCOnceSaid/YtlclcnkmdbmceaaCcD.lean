/- The contracts of ccSent, ccAwake and of the law, as patterns, and the points. -/
import Derived.Test.YtlclcnkmdbmceaaCcI
set_option linter.unusedVariables false
namespace Go.Proofs.Ytlclcnkmdbmceaa
open Go Go.Sy

/-- Packets that are sent, then acknowledged: 0 how many, 1 their size, 2 how many are acknowledged. -/
def ct5 : Ct where
  g := 5
  args := [.int .i64 (.v 0), .int .i64 (.v 1), .int .i64 (.v 2)]
  heap := []
  pre := bd (.v 0) 1 40 ++ bd (.v 1) 1200 1455 ++ bd (.v 2) 0 40 ++ [((.le (.v 2) (.v 0)), true)]
  alts := [{ res := .own 0, post := [.row (.ap 1 (.i (.v 0) (.i (.v 1) .nil))) rowI (.add (.v 0) (.v 2)) [] 27] }]
def prm5 (P : Program) : Prm := { P, gm := [], okf, mts := [], dfr := [], sl := [(5, 4), (5, 9)], ct := [] }
def tm5 : List (Nat × SV) := [(0, .int .i64 (.v 0)), (1, .int .i64 (.v 1)), (2, .int .i64 (.v 2)), (7, .own 0), (8, .int .i64 (.v 4))]
def fc5 : Fx := bd (.v 0) 1 40 ++ bd (.v 1) 1200 1455 ++ bd (.v 2) 0 40 ++ bd (.v 3) 0 100 ++ bd (.v 4) (-200000) 200000 ++ bd (.v 5) 1 41
def pts5 (P : Program) : List Pt := [
  { r := 4, b := loopB P 5 4, K := loopK P 5 4, n := 49, tmps := tm5 ++ [(9, .int .i64 (.v 5))], heap := [.row (.v 0) rowI (.v 3) [] 27], facts := fc5 },
  { r := 9, b := loopB P 5 9, K := loopK P 5 9, n := 49, tmps := tm5 ++ [(10, .int .i64 (.v 5))], heap := [.row (.v 0) rowI (.v 3) [] 27], facts := fc5 }]
def ct6 : Ct where
  g := 6
  args := []
  heap := []
  pre := []
  alts := [{ res := .bool (.c true), post := [] }]
def prm6 (P : Program) : Prm := { P, gm := [], okf, mts := [], dfr := [], sl := [], ct := [ct7, ct5] }
def ct4 : Ct where
  g := 4
  args := [.bool (.v 0), .int .u8 (.v 1), .int .u8 (.v 2), .int .u8 (.v 3)]
  heap := []
  pre := bd (.v 1) 0 255 ++ bd (.v 2) 0 255 ++ bd (.v 3) 0 255
  alts := [{ res := .bool (.c true), post := [] }]
def prm4 (P : Program) : Prm := { P, gm := [], okf, mts := [], dfr := [], sl := [], ct := [ct7, ct5, ct6] }
end Go.Proofs.Ytlclcnkmdbmceaa
