/- The contract of the law of losses, as patterns, and its points. -/
import Derived.Test.YtlclcnkmdbmceaaCcD
set_option linter.unusedVariables false
namespace Go.Proofs.Ytlclcnkmdbmceaa
open Go Go.Sy

def ct3 : Ct where
  g := 3
  args := [.bool (.v 0), .int .u8 (.v 1), .int .u8 (.v 2), .int .u8 (.v 3), .slice 0 Off.z (.v 4) (.v 5)]
  heap := [.arr (.v 0) [.int .u8] (.v 4)]
  pre := bd (.v 1) 0 255 ++ bd (.v 2) 0 255 ++ bd (.v 3) 0 255 ++ [((.le (.c 0) (.v 4)), true), ((.le (.v 4) (.v 5)), true), ((.ap 1 (.a (.v 0) (.i (.v 4) .nil))), true)]
  alts := [{ res := .bool (.c true), post := [.arr (.v 0) [.int .u8] (.v 4)] }]
/-- The law over a nil slice. -/
def ct3n : Ct where
  g := 3
  args := [.bool (.v 0), .int .u8 (.v 1), .int .u8 (.v 2), .int .u8 (.v 3), .nilslice]
  heap := []
  pre := bd (.v 1) 0 255 ++ bd (.v 2) 0 255 ++ bd (.v 3) 0 255
  alts := [{ res := .bool (.c true), post := [] }]
def szE : SE := .add (.c 1200) (.v 1)
def nE : SE := .add (.c 1) (.tmod (.v 2) (.c 40))
def kE : SE := .tmod (.v 3) nE
def bts : List Bt := [btMake 25 0, btGet 25 0 .i64 0, btPut 25 0 .i64 0]
def atE : SE := .tmod (.rd (.v 0) (.v 15)) (.sub (.v 11) (.v 12))
def prm3 (P : Program) : Prm := { P, gm := [], okf, mts := [], dfr := [], sl := [(3, 11), (3, 28)], ct := [ct7, ct5, ct6], bt := bts, hint := [(3, 5, bd kE 0 39), (3, 13, bd (.rd (.v 0) (.v 15)) 0 255 ++ [((.eq (.sub (.v 11) (.v 12)) (.c 0)), false)] ++ bd atE 0 39)] }
def fc3 : Fx := bd (.v 10) 1200 1455 ++ bd (.v 11) 1 40 ++ bd (.v 12) 0 39 ++ bd (.v 13) 1 80 ++ bd (.v 14) (-200000) 200000 ++ bd (.v 15) 0 30 ++ bd (.v 16) 1 120 ++ [((.le (.c 0) (.v 4)), true), ((.le (.v 4) (.v 5)), true)]
def pt3a (P : Program) : Pt := { r := 11, b := loopB P 3 11, K := loopK P 3 11, n := 191, tmps := [(0, .bool (.v 0)), (4, .slice 0 Off.z (.v 4) (.v 5)), (11, .int .i64 (.v 10)), (12, .int .i64 (.v 11)), (13, .int .i64 (.v 12)), (14, .own 1), (15, .int .i64 (.v 13)), (16, .int .i64 (.v 14)), (17, .map 2), (18, .int .i64 (.v 15))], heap := [.arr (.v 0) [.int .u8] (.v 4), .row (.v 1) rowI (.v 16) [] 27, .pr 0 (.a (.v 2) (.a (.v 3) .nil))], facts := fc3 }
def pt3b (P : Program) : Pt := { r := 28, b := loopB P 3 28, K := loopK P 3 28, n := 191, tmps := [(11, .int .i64 (.v 10)), (20, .own 1), (23, .int .i64 (.v 17)), (24, .int .i64 (.v 15))], heap := [.arr (.v 0) [.int .u8] (.v 4), .row (.v 1) rowO (.v 16) [] 33], facts := bd (.v 10) 1200 1455 ++ bd (.v 15) 0 130 ++ bd (.v 16) 2 130 }
def pts3 (P : Program) : List Pt := [pt3a P, pt3b P]
def prm3n (P : Program) : Prm := { prm3 P with sl := [] }
end Go.Proofs.Ytlclcnkmdbmceaa
