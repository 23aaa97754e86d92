/- The law's contract, as patterns, and its points. -/
import Derived.Test.YtiadjdnipheghaaRmC
set_option linter.unusedVariables false
namespace Go.Proofs.Ytiadjdnipheghaa
open Go Go.Sy

def ct3 : Ct where
  g := 3
  args := [.int .u8 (.v 0), .slice 0 Off.z (.v 1) (.v 3)]
  heap := [.arr (.v 0) [.int .u32, .int .u32] (.v 1)]
  pre := bd (.v 0) 0 255 ++ [((.le (.c 0) (.v 1)), true), ((.le (.v 1) (.v 3)), true), ((.ap 1 (.a (.v 0) (.i (.v 1) .nil))), true)]
  alts := [{ res := .bool (.c true), post := [.arr (.v 0) [.int .u32, .int .u32] (.v 1)] }]
/-- The law over a nil slice. -/
def ct3n : Ct where
  g := 3
  args := [.int .u8 (.v 0), .nilslice]
  heap := []
  pre := bd (.v 0) 0 255
  alts := [{ res := .bool (.c true), post := [] }]
def rA (a : Nat) (x : SE) (c : Nat) : SE := .rd (.v a) (if c = 0 then x else .add x (.c c))
def i2 : SE := .mul (.v 5) (.c 2)
def i6 : SE := .mul (.v 5) (.c 6)
def p6 : SE := .mul (.sub (.v 5) (.c 1)) (.c 6)
def madE : SE := .mul (.tmod (.v 0) (.c 64)) (.c 1000000)
def prm3 (P : Program) : Prm := { P, gm := [], okf, mts := [], dfr := [], sl := [(3, 6), (3, 15)], ct := [ct4], hint := [
  (3, 8, bd (rA 0 i2' 0) 0 4294967295 ++ bd (rA 0 i2' 1) 0 4294967295),
  (3, 18, bd (rA 1 i2 0) 1000 2000000000 ++ bd (rA 1 i2 1) 0 100000000 ++ bd (rA 2 i6 0) 0 2000000000 ++ bd (rA 2 i6 3) 0 2000000000),
  (3, 27, bd (rA 2 p6 0) 0 2000000000 ++ bd (rA 2 p6 3) 0 2000000000)] }
where i2' : SE := .mul (.v 7) (.c 2)
def pts3 (P : Program) : List Pt := [
  { r := 6, b := loopB P 3 6, K := loopK P 3 6, n := 173, tmps := [(5, .int .i64 madE), (6, .own 1), (31, .slice 0 Off.z (.mn (.v 1) (.c 20)) (.v 3)), (32, .int .i64 (.mn (.v 1) (.c 20))), (33, .int .i64 (.v 7))], heap := [.arr (.v 0) [.int .u32, .int .u32] (.v 1), .row (.v 1) [.int .i64, .int .i64] (.v 7) [] 27], facts := bd (.v 0) 0 255 ++ bd (.v 7) 0 20 ++ [((.le (.c 0) (.v 1)), true), ((.le (.v 1) (.v 3)), true)] },
  { r := 15, b := loopB P 3 15, K := loopK P 3 15, n := 173, tmps := [(5, .int .i64 madE), (9, .own 1), (10, .int .i64 (.v 4)), (61, .own 2), (62, .int .i64 (.v 2)), (63, .int .i64 (.v 5))], heap := [.arr (.v 0) [.int .u32, .int .u32] (.v 1), .row (.v 2) six (.v 2) [] 30, .row (.v 1) [.int .i64, .int .i64] (.v 2) [] 27], facts := bd (.v 0) 0 255 ++ bd (.v 5) 0 20 ++ bd (.v 2) 0 20 ++ bd (.v 4) 0 2000000000 }]
end Go.Proofs.Ytiadjdnipheghaa
