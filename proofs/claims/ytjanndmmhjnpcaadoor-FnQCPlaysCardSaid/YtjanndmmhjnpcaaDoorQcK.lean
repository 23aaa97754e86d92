/- The contracts of the laws. -/
import Derived.Test.YtjanndmmhjnpcaaDoorQcC
import Derived.Test.YtjanndmmhjnpcaaDoorSyNs
set_option autoImplicit true
set_option relaxedAutoImplicit true
set_option linter.unusedVariables false
namespace Go.Proofs.YtjanndmmhjnpcaaDoor
open Go Go.Sy
def ct5 : Ct where
  g := 5
  args := [.slice 0 Off.z (.v 1) (.v 3)]
  heap := [.arr (.v 0) [.int .u8] (.v 1)]
  pre := [((.le (.c 0) (.v 1)), true), ((.le (.v 1) (.v 3)), true), ((.le (.v 1) (.c 2147483647)), true), ((.ap 16 (.a (.v 0) (.i (.v 1) .nil))), true)]
  alts := [{ res := .own 1, post := [.arr (.v 0) [.int .u8] (.v 1), .row (.v 500) sk5 (.v 500) [] 33], xf := bd (.v 500) 0 40 ++ [((.ap 3 (.a (.v 500) (.i (.v 500) .nil))), true)] }]
  nx := 1
def prm5 (P : Program) : Prm := { P, gm := [], okf, mts := [], dfr := [], sl := [(5, 4)], ct := [], hint := [(5, 7, bd (.rd (.v 0) (.v 130)) 0 255 ++ bd (.rd (.v 0) (.add (.v 130) (.c 1))) 0 255)] }
def pts5 (P : Program) : List Pt := [
  { r := 4, b := loopB P 5 4, K := loopK P 5 4, n := 100, tmps := [(0, .slice 0 Off.z (.v 1) (.v 3)), (3, .own 1), (4, .int .u64 (.v 132)), (5, .int .i64 (.v 130))], ds := [], heap := [.arr (.v 0) [.int .u8] (.v 1), .row (.v 121) sk5 (.v 131) [] 33],
    facts := ct5.pre ++ bd (.v 130) 0 81 ++ bd (.v 131) 0 40 ++ bd (.v 132) 1 41 }]
def ct10 (ix : SE) (pre : Fx) : Ct where
  g := 10
  args := [nsV ix, .own 1]
  heap := [recV 1000, .row (.v 50) [.int .u64] (.v 50) [] 29]
  pre := pre ++ [((.le (.c 0) (.rd (.v 2) ix)), true), ((.le (.rd (.v 2) ix) (.c 64)), true)] ++ bd (.v 50) 0 64
  alts := [{ res := .bool (.ap 15 (.a (.v 4) (.i (SE.mkMul ix (.c 64)) (.i (.rd (.v 2) ix) (.a (.v 50) (.i (.c 0) (.i (.v 50) .nil))))))), post := [recV 1000, .row (.v 50) [.int .u64] (.v 50) [] 29] }]
def btN (ix : SE) (pre : Fx) : List Bt := [btNsLen 34 1000 ix pre, btNsIx 34 1000 ix pre, btNsLd 29 1000 ix pre 64 .u64]
def btR : List Bt := [btRecLen 26 1000, btRecIx 26 1000 r6, btRecLd 3 1000 r6 0, btRecLd 3 1000 r6 1, btRecLd 34 1000 r6 3]
def prm10 (P : Program) (ix : SE) (pre : Fx) : Prm := { P, gm := [], okf, mts := [], dfr := [], sl := [(10, 4)], ct := [], bt := btN ix pre }
def pre6c : Fx := [((.lt (.c 2) (.v 0)), true)]
def ct10c : Ct := ct10 (.c 6) pre6c
def pts10 (P : Program) (ix : SE) (pre : Fx) : List Pt := [
  { r := 4, b := loopB P 10 4, K := loopK P 10 4, n := 26, tmps := [(0, nsV ix), (1, .own 1), (12, .int .i64 (.rd (.v 2) ix)), (13, .int .i64 (.v 130))], ds := [], heap := [recV 1000, .row (.v 50) [.int .u64] (.v 50) [] 29], facts := (ct10 ix pre).pre ++ bd (.v 130) 0 64 ++ [((.eq (.rd (.v 2) ix) (.v 50)), true)] }]
def ct7 : Ct where
  g := 7
  args := []
  heap := []
  alts := [{ res := .bool (.c true), post := [] }]
def prm7 (P : Program) : Prm := { P, gm := [], okf, mts := [], dfr := [], sl := [], ct := [ct6, ct10c], bt := btR }
def ct3 : Ct where
  g := 3
  args := [.int .u8 (.v 30), .int .u32 (.v 12), .slice 0 Off.z (.v 1) (.v 3)]
  heap := [.arr (.v 0) [.int .u8] (.v 1)]
  pre := bd (.v 30) 0 255 ++ bd (.v 12) 0 4294967295 ++ [((.le (.c 0) (.v 1)), true), ((.le (.v 1) (.v 3)), true), ((.ap 16 (.a (.v 0) (.i (.v 1) .nil))), true)]
  alts := [{ res := .bool (.c true), post := [.arr (.v 0) [.int .u8] (.v 1)] }]
def slT : SL := .a (.v 105) (.i (.v 12) .nil)
def rec3 : SBlk := recB 1000 (.v 140) (.ap 20 slT) (.v 121) (.ap 21 slT) (.v 123) (.ap 22 slT)
def hp3 : List SBlk := [.arr (.v 0) [.int .u8] (.v 1), rec3, mapS 7 (.v 131) (.v 132), .row (.v 105) sk5 (.v 140) [] 33]
def i3 : SE := .mul (.v 130) (.c 3)
end Go.Proofs.YtjanndmmhjnpcaaDoor
