/- The contract of FCPlay, as a pattern, and its point; n streams. -/
import Derived.Test.YtpjifimjoinnnaaDoorFcC
set_option autoImplicit true
set_option relaxedAutoImplicit true
set_option linter.unusedVariables false
namespace Go.Proofs.YtpjifimjoinnnaaDoor
open Go Go.Sy
def row3 : List SK := [.int .i64, .int .i64, .int .i64]
def rowS : List SK := [.int .i64, .int .i64, .int .i64, .int .i64, .int .i64, .bool]
def rowO : List SK := [.int .i64, .int .i64, .bool, .bool, .int .i64, .int .i64, .int .i64, .int .i64]
def ct8 (n : Nat) : Ct where
  g := 8
  args := [.agg [.int .i64 (.v 12), .int .i64 (.v 13), .int .i64 (.v 14)], .own 0, .own 1]
  heap := [.row (.v 2) row3 (.c n) [] 27, .row (.v 0) rowS (.v 0) [] 34]
  pre := bd (.v 0) 0 1000 ++ bd (.v 14) 0 1000000 ++ [((.ap 0 (.i (.v 12) (.i (.v 13) (.i (.v 14) (.a (.v 2) (.i (.c n) (.a (.v 0) (.i (.v 0) .nil)))))))), true)]
  alts := [{ res := .tup [.own 2, .bool (.c true)], post := [.row (.v 2) row3 (.c n) [] 27, .row (.v 0) rowS (.v 0) [] 34, .row (.ap 0 (.i (.v 12) (.i (.v 13) (.i (.v 14) (.a (.v 2) (.a (.v 0) .nil)))))) rowO (.v 0) [] 38] }]
def e6 (c : Nat) : SE := if c = 0 then .mul (.v 20) (.c 6) else .add (.mul (.v 20) (.c 6)) (.c c)
def rd6 (c : Nat) : SE := .rd (.v 0) (e6 c)
def prm8 (n : Nat) (P : Program) : Prm := { P, gm := [], okf, mts := [], dfr := [19], sl := [(8, 12)], ct := [ct25, ct26, ct27, ct28, ct29, ct30, ct22, ct31, ct33, ct34], hint := [
  (8, 14, bd (rd6 0) 0 11 ++ bd (rd6 1) 0 (n - 1 : Int) ++ bd (rd6 3) 0 1000000 ++ bd (rd6 4) 0 1000000000000000000),
  (8, 20, bd (rd6 2) 0 1000000), (8, 32, bd (rd6 2) 0 1000000),
  (8, 41, bd (rd6 2) 1000000 260000000 ++ [((.v 1), false)])], part := [(8, 14, (List.range (n - 1)).map fun (i : Nat) => .le (rd6 1) (.c (i : Int)))] }
def strV (i : Nat) : SBlk :=
  let B := 100 * (i + 1)
  strB (.v (B + 2)) (.v (B + 1)) (.v (B + 3)) (.v (B + 4)) (.v (B + 5)) (.v (B + 6)) (.v (B + 7)) (.v (B + 8)) (.v (B + 9)) (.v (B + 10)) (.c (4 * i)) (.v (2 + i)) 4 6
def strR (i : Nat) : Fx :=
  let B := 100 * (i + 1)
  bd (.v (B + 1)) 0 1000000 ++ bd (.v (B + 2)) 0 1000000 ++ bd (.v (B + 3)) 0 1000000 ++ bd (.v (B + 4)) 2 1000000 ++ bd (.v (B + 5)) 2 1000000 ++ bd (.v (B + 6)) 0 1000000000000000000 ++ bd (.v (B + 7)) 0 1000000 ++ bd (.v (B + 8)) 0 1000000 ++ bd (.v (B + 9)) 0 1000000 ++ bd (.v (B + 10)) 0 1000000
def hp8 (n : Nat) : List SBlk := [.row (.v 2) row3 (.c n) [] 27, .row (.v 0) rowS (.v 0) [] 34, .row (.v 1) rowO (.v 20) [] 38, .cells [.bool (.c false)] 4,
  .cells [.bool (.v 1), .int .i64 (.v 41), .int .i64 (.v 42), .int .i64 (.v 40), .int .i64 (.v 43), .int .i64 (.c 0)] 99, funB,
  conB (.v 3) (.v 2) (.v 4) (.v 5) (.v 6) (.v 7) (.v 8) (.v 9) (.v 10) (.v 11) 4 0, .row (.v 3) [.opq] (.c 0) ((List.range n).map fun i => .ptr (8 + i) Off.z) 69] ++ (List.range n).map strV
def pts8 (n : Nat) (P : Program) : List Pt := [
  { r := 12, b := loopB P 8 12, K := loopK P 8 12, n := 183, tmps := [(6, .own 2), (7, .ptr 3 Off.z), (8, .ptr 4 Off.z), (9, .ptr 6 Off.z), (10, .own 7), (53, .own 1), (54, .int .i64 (.v 0)), (55, .int .i64 (.v 20))], ds := [{ fn := 19, args := [.ptr 3 Off.z], cap := [] }], heap := hp8 n, facts := bd (.v 0) 0 1000 ++ bd (.v 20) 0 1000 ++ conF ++ rttF ++ ((List.range n).map strR).flatten }]
end Go.Proofs.YtpjifimjoinnnaaDoor
