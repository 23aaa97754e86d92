/- The contracts around the law, as patterns, and its points. -/
import Derived.Test.YtpjifimjoinnnaaDoorFcL
import Derived.Test.YtpjifimjoinnnaaDoorFcD
import Derived.Test.YtpjifimjoinnnaaDoorSyQ
set_option autoImplicit true
set_option relaxedAutoImplicit true
set_option linter.unusedVariables false
namespace Go.Proofs.YtpjifimjoinnnaaDoor
open Go Go.Sy
def ct9 : Ct where
  g := 9
  args := [.own 0]
  heap := [.row (.v 2) row3 (.v 41) [] 27]
  pre := bd (.v 41) 0 1000
  alts := [{ res := .own 1, post := [.row (.v 2) row3 (.v 41) [] 27, .row (.v 2) row3 (.v 41) [] 27] }]
def ct10 : Ct where
  g := 10
  args := [.own 0]
  heap := [.row (.v 0) rowS (.v 0) [] 34]
  pre := bd (.v 0) 0 1000
  alts := [{ res := .own 1, post := [.row (.v 0) rowS (.v 0) [] 34, .row (.v 0) rowS (.v 0) [] 34] }]
def ct5 : Ct where
  g := 5
  args := [.agg [.int .i64 (.v 12), .int .i64 (.v 13), .int .i64 (.v 14)], .own 0]
  heap := [.row (.v 2) row3 (.v 41) [] 27]
  pre := bd (.v 41) 0 1000
  alts := [{ res := .ptr 2 Off.z, post := [.row (.v 2) row3 (.v 41) [] 27, .row (.ap 2 (.a (.v 2) .nil)) rowP (.v 41) [] 47, .cells [.int .i64 (.c 0), .int .i64 (.c 0), .int .i64 (.v 12), .int .i64 (.v 12), .int .i64 (.v 13), .int .i64 (.c 0), .int .i64 (.c 0), .int .i64 (.c 0), .int .i64 (.v 14), .int .i64 (.c 0), .bool (.c false), .bool (.c false), .own 1, .int .i64 (.c 100000000), .bool (.c false)] 50] }]
def prmA (P : Program) : Prm := { P, gm := [], okf, mts := [], dfr := [], sl := [(5, 3)], ct := [], bt := [btIsNil 28 row3 27, btIsNil 31 rowS 34] }
def prmB (P : Program) : Prm := { P, gm := [], okf, mts := [], dfr := [], sl := [(5, 3)], ct := [] }
def ct8g : Ct where
  g := 8
  args := [.agg [.int .i64 (.v 12), .int .i64 (.v 13), .int .i64 (.v 14)], .own 0, .own 1]
  heap := [.row (.v 2) row3 (.v 41) [] 27, .row (.v 0) rowS (.v 0) [] 34]
  pre := bd (.v 41) 1 3 ++ bd (.v 0) 0 1000 ++ bd (.v 14) 0 1000000 ++ [((.ap 0 (.i (.v 12) (.i (.v 13) (.i (.v 14) (.a (.v 2) (.i (.v 41) (.a (.v 0) (.i (.v 0) .nil)))))))), true)]
  alts := [{ res := .tup [.own 2, .bool (.c true)], post := [.row (.v 2) row3 (.v 41) [] 27, .row (.v 0) rowS (.v 0) [] 34, .row (.ap 0 (.i (.v 12) (.i (.v 13) (.i (.v 14) (.a (.v 2) (.a (.v 0) .nil)))))) rowO (.v 0) [] 38] }]
def ct11 : Ct where
  g := 11
  args := []
  heap := []
  alts := [{ res := .bool (.c true), post := [] }]
def prm11 (P : Program) : Prm := { P, gm := [], okf, mts := [], dfr := [], sl := [], ct := [ct8g] }
def ct7g : Ct := { ct7 with pre := [((.ap 3 (.a cA (.i (.v 40) (.b (.v 12) (.a (.v 0) (.i (.v 60) (.i (.v 61) (.i (.v 62) (.i (.v 63) (.i (.v 64) (.b (.v 13) (.i (.v 41) .nil)))))))))))), true)] ++ bd (.v 41) 1 3 }
def ct3 : Ct where
  g := 3
  args := [.slice 0 ⟨.c 0, 1, 0⟩ (.v 50) (.v 53)]
  heap := [codB]
  pre := [((.le (.c 0) (.v 50)), true), ((.le (.v 50) (.v 53)), true), ((.le (.v 53) (.c 9223372036854775807)), true), ((.ap 1 (.a (.v 5) (.i (.v 50) .nil))), true)]
  alts := [{ res := .bool (.c true), post := [codB] }]
def ct3n : Ct where
  g := 3
  args := [.nilslice]
  heap := []
  alts := [{ res := .bool (.c true), post := [] }]
def prm3 (P : Program) : Prm := { P, gm := [], okf, mts := [], dfr := [], sl := [(3, 8), (3, 15), (3, 26)], ct := [ct4, ct5, ct6, ct7g, ct9, ct10, ct8g, ct11] }
def prm3n (P : Program) : Prm := { P, gm := [], okf, mts := [], dfr := [], sl := [], ct := [ct9, ct10, ct8g, ct11] }
def cnB : SBlk := .cells [.int .i64 (.v 20), .int .i64 (.v 21), .int .i64 (.v 22)] 27
def cnF : Fx := bd (.v 20) 8 2048 ++ bd (.v 21) 8 8192 ++ bd (.v 22) 0 1020
def pt8' (P : Program) : Pt := { r := 8, b := loopB P 3 8, K := loopK P 3 8, n := 157, tmps := [(3, .ptr 1 Off.z), (4, .ptr 2 Off.z), (5, .own 3), (42, .int .i64 (.v 43)), (43, .int .i64 (.v 41))], heap := [codB, winB 0 (.v 51) (.v 52) (.v 53), cnB, .row (.v 2) row3 (.v 41) [] 27], facts := codF ++ cnF ++ bd (.v 43) 1 3 ++ bd (.v 41) 0 3 }
def stF : Fx := bd (.v 0) 0 1000000 ++ bd (.v 2) 0 1000000 ++ bd (.v 7) 0 1000000 ++ bd (.v 8) 0 1000000 ++ [((.le (.v 7) (.v 8)), true), ((.le (.v 0) (.v 2)), true), ((.ap 2 (.a (.v 0) (.i (.v 41) .nil))), true)]
def pt15' (P : Program) : Pt := { r := 15, b := loopB P 3 15, K := loopK P 3 15, n := 157, tmps := [(3, .ptr 1 Off.z), (4, .ptr 2 Off.z), (5, .own 3), (7, .ptr 4 Off.z), (8, .int .i64 (.v 64)), (9, .own 6), (10, .own 7)], heap := [codB, winB 0 (.v 51) (.v 52) (.v 53), cnB, .row (.v 2) row3 (.v 41) [] 27, stA' 5, .row (.v 0) rowP (.v 41) [] 47, .row (.v 6) rowS (.v 42) [] 34, .row (.v 7) rowO (.v 42) [] 38], facts := codF ++ bd (.v 22) 0 1020 ++ bd (.v 41) 1 3 ++ bd (.v 42) 0 60 ++ bd (.v 64) 0 900000000000000000 ++ stF }
def pt26' (P : Program) : Pt := { r := 26, b := loopB P 3 26, K := loopK P 3 26, n := 157, tmps := [(10, .own 1), (14, .own 2), (125, .int .i64 (.v 42)), (126, .int .i64 (.v 44))], heap := [codB, .row (.v 7) rowO (.v 42) [] 38, .row (.v 8) rowO (.v 42) [] 38], facts := bd (.v 42) 0 60 ++ bd (.v 44) 0 60 }
def pts3 (P : Program) : List Pt := [pt8' P, pt15' P, pt26' P]
def pt53 (P : Program) : Pt := { r := 3, b := loopB P 5 3, K := loopK P 5 3, n := 45, tmps := [(5, .ptr 1 Off.z), (19, .own 0), (20, .int .i64 (.v 41)), (21, .int .i64 (.v 4))], heap := [.row (.v 2) row3 (.v 41) [] 27, .cells [.int .i64 (.c 0), .int .i64 (.c 0), .int .i64 (.v 12), .int .i64 (.v 12), .int .i64 (.v 13), .int .i64 (.c 0), .int .i64 (.c 0), .int .i64 (.c 0), .int .i64 (.v 14), .int .i64 (.c 0), .bool (.c false), .bool (.c false), .own 2, .int .i64 (.c 100000000), .bool (.c false)] 50, .row (.v 3) rowP (.v 4) [] 47], facts := bd (.v 41) 0 1000 ++ bd (.v 4) 0 1000 }
def pts5 (P : Program) : List Pt := [pt53 P]
end Go.Proofs.YtpjifimjoinnnaaDoor
