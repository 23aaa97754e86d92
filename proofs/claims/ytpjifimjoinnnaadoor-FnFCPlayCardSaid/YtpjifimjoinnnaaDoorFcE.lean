/- The contract of the plain rule's step (spec.FCStep), as a pattern. -/
import Derived.Test.YtpjifimjoinnnaaDoorFcD
set_option autoImplicit true
set_option relaxedAutoImplicit true
set_option linter.unusedVariables false
namespace Go.Proofs.YtpjifimjoinnnaaDoor
open Go Go.Sy
def rowP : List SK := [.int .i64, .int .i64, .int .i64, .int .i64, .int .i64, .int .i64, .int .i64, .int .i64, .int .i64, .int .i64, .bool, .bool]
def cA : AE := .tl (.v 0) (.c 0) (.i (.v 0) (.i (.v 1) (.i (.v 2) (.i (.v 3) (.i (.v 4) (.i (.v 5) (.i (.v 6) (.i (.v 7) (.i (.v 8) (.i (.v 9) (.b (.v 10) (.b (.v 11) .nil))))))))))))
def sArgs : SL := .a cA (.i (.v 40) (.b (.v 12) (.a (.v 0) (.i (.v 60) (.i (.v 61) (.i (.v 62) (.i (.v 63) (.i (.v 64) (.b (.v 13) .nil)))))))))
def cF (j : Nat) : SE := .ap 20 (.i (.c j) sArgs)
def oF (j : Nat) : SE := .ap 21 (.i (.c j) sArgs)
def rS (c : Nat) : SE := .rd (.v 0) (if c = 0 then .mul (.v 61) (.c 12) else .add (.mul (.v 61) (.c 12)) (.c c))
def nz (x : SE) : SB := .not (.eq x (.c 0))
def stC (l : List SV) (rtt : SE) (smp : SB) : SBlk := .cells (l ++ [.own 1, .int .i64 rtt, .bool smp]) 50
def ct7 : Ct where
  g := 7
  args := [.ptr 0 Off.z, .agg [.int .i64 (.v 60), .int .i64 (.v 61), .int .i64 (.v 62), .int .i64 (.v 63), .int .i64 (.v 64), .bool (.v 13)]]
  heap := [stC (((List.range 10).map fun i => SV.int .i64 (.v i)) ++ [.bool (.v 10), .bool (.v 11)]) (.v 40) (.v 12), .row (.v 0) rowP (.v 41) [] 47]
  pre := bd (.v 0) 0 1000000 ++ bd (.v 1) 0 1000000 ++ bd (.v 2) 0 1000000 ++ bd (.v 3) 2 1000000 ++ bd (.v 4) 2 1000000 ++ bd (.v 5) 0 1000000000000000000 ++ bd (.v 6) 0 1000000 ++ bd (.v 7) 0 1000000 ++ bd (.v 8) 0 1000000 ++ bd (.v 9) 0 1000000 ++
    rttF ++ bd (.v 41) 1 3 ++ bd (.v 60) 0 11 ++ [((.le (.c 0) (.v 61)), true), ((.lt (.v 61) (.v 41)), true)] ++ bd (.v 62) 0 260000000 ++ bd (.v 63) 0 1000000 ++ bd (.v 64) 0 1000000000000000000 ++
    bd (rS 0) 0 1000000 ++ bd (rS 1) 0 1000000 ++ bd (rS 2) 0 1000000 ++ bd (rS 3) 2 1000000 ++ bd (rS 4) 2 1000000 ++ bd (rS 5) 0 1000000000000000000 ++ bd (rS 6) 0 1000000 ++ bd (rS 7) 0 1000000 ++ bd (rS 8) 0 1000000 ++ bd (rS 9) 0 1000000 ++ bd (rS 10) 0 1 ++
    [((.le (.v 5) (.v 64)), true), ((.le (rS 5) (.v 64)), true), ((.le (rS 1) (rS 0)), true), ((.le (rS 7) (rS 8)), true), ((.le (.v 7) (.v 8)), true), ((.and (.eq (.v 60) (.c 7)) (.not (.le (.add (rS 7) (.v 62)) (rS 8)))), false), ((.and (.eq (.v 60) (.c 7)) (.not (.le (.add (.v 7) (.v 62)) (.v 8)))), false)]
  alts := [{ res := .agg [.int .i64 (oF 0), .int .i64 (oF 1), .bool (nz (oF 2)), .bool (nz (oF 3)), .int .i64 (oF 4), .int .i64 (oF 5), .int .i64 (oF 6), .int .i64 (oF 7)],
             post := [stC (((List.range 10).map fun i => SV.int .i64 (cF i)) ++ [.bool (.v 10), .bool (.v 11)]) (.ite (.eq (.v 60) (.c 11)) (.v 62) (.v 40)) (orB (.eq (.v 60) (.c 11)) (.v 12)), .row (.ap 1 sArgs) rowP (.v 41) [] 47] }]
def prm7 (P : Program) : Prm := { P, gm := [], okf, mts := [], dfr := [], sl := [], ct := [] }
end Go.Proofs.YtpjifimjoinnnaaDoor
