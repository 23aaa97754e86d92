/- The contract of CCPlay, as a pattern, and its point. -/
import Derived.Test.YtlclcnkmdbmceaaCcG
set_option linter.unusedVariables false
namespace Go.Proofs.Ytlclcnkmdbmceaa
open Go Go.Sy

/-- CCPlay: 0 Reno, 1 a datagram's size, 2 how many steps. -/
def ct7 : Ct where
  g := 7
  args := [.bool (.v 0), .int .i64 (.v 1), .own 0]
  heap := [.row (.v 0) rowI (.v 2) [] 27]
  pre := bd (.v 1) 1200 1455 ++ bd (.v 2) 0 1000 ++ [((.ap 0 (.b (.v 0) (.i (.v 1) (.a (.v 0) (.i (.v 2) .nil))))), true)]
  alts := [{ res := .tup [.own 1, .bool (.c true)], post := [.row (.v 0) rowI (.v 2) [] 27, .row (.ap 0 (.b (.v 0) (.i (.v 1) (.a (.v 0) .nil)))) rowO (.v 2) [] 33] }]
def e6 (c : Nat) : SE := if c = 0 then .mul (.v 3) (.c 6) else .add (.mul (.v 3) (.c 6)) (.c c)
def rd6 (c : Nat) : SE := .rd (.v 0) (e6 c)
def prm7 (P : Program) : Prm := { P, gm := [], okf, mts := [], dfr := [8], sl := [(7, 5)], ct := [ct30, ct29, ct50, ct51, ct12, ct13], hint := [
  (7, 9, bd (rd6 0) 0 6 ++ bd (rd6 1) 0 1000 ++ bd (rd6 2) 0 2000 ++ bd (rd6 3) 0 1000000 ++ bd (rd6 4) 0 10000000000 ++ [((.eq (rd6 0) (.c 3)), false), ((.eq (rd6 0) (.c 4)), false), ((.eq (rd6 0) (.c 5)), false)]),
  (7, 10, [((.eq (rd6 5) (.c 0)), false)]),
  (7, 12, bd (.v 14) 2400 190000 ++ [((.eq (.v 13) (.c (-1))), true), ((.eq (.v 15) (.c 4611686018427387903)), true)]),
  (7, 22, [((.eq (rd6 5) (.c 0)), false)])] }
def hp : List SBlk := [.row (.v 0) rowI (.v 2) [] 27, .row (.v 1) rowO (.v 3) [] 33, .cells [.bool (.c false)] 4, rtt, stats (.v 9), cub, pac (.v 5) (.v 6), snd 3 (.v 12) (.v 14)]
def pts7 (P : Program) : List Pt := [
  { r := 5, b := loopB P 7 5, K := loopK P 7 5, n := 112, tmps := [(6, .own 1), (7, .ptr 2 Off.z), (8, .ptr 3 Off.z), (9, .ptr 7 Off.z), (23, .own 0), (24, .int .i64 (.v 2)), (25, .int .i64 (.v 3))], ds := [{ fn := 8, args := [.ptr 2 Off.z], cap := [] }], heap := hp, facts := bd (.v 2) 0 1000 ++ bd (.v 3) 0 1000 ++ pacB ++ cwB ++ bd (.v 11) (-1) 1000 ++ bd (.v 12) (-1) 1000 ++ bd (.v 13) (-1) 1000 ++ bd (.v 15) 0 4611686018427387903 }]
end Go.Proofs.Ytlclcnkmdbmceaa
