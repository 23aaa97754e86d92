/- The contracts of UpdateRTT and RTPlay, as patterns. -/
import Derived.Test.YtiadjdnipheghaaRmN
set_option linter.unusedVariables false
namespace Go.Proofs.Ytiadjdnipheghaa
open Go Go.Sy

def u32Ok (st : Nat → Int) (n : Nat) : Prop := ∀ j, j < n * 2 → 0 ≤ st j ∧ st j ≤ 4294967295
def ab : Int → Bool := fun n => n != 0
/-- What the names stand for: 0 the least RTT, 1 the sample, 2 the smoothed one, 3 the variance; of rows: 0 the RTTs behind each step; of truth values: 0 the steps are in their ranges. -/
noncomputable def fns : Fns where
  f k l := match k, l with
    | 0, [.i h, .i mn, .i s] => uMn (ab h) mn s
    | 1, [.i h, .i mn, .i s, .i d] => uX (uMn (ab h) mn s) s d
    | 2, [.i h, .i mn, .i sm, .i s, .i d] => uSm (ab h) sm (uX (uMn (ab h) mn s) s d)
    | 3, [.i h, .i mn, .i sm, .i dev, .i s, .i d] => uDev (ab h) dev sm (uX (uMn (ab h) mn s) s d)
    | _, _ => 0
  g k l := match k, l with
    | 0, [.a st, .i n] => (open Classical in decide (stOk st n.toNat))
    | 1, [.a st, .i n] => (open Classical in decide (u32Ok st n.toNat))
    | _, _ => false
  a k l := match k, l with
    | 0, [.i mad, .a st] => outA st mad
    | _, _ => fun _ => 0
def bd (x : SE) (lo hi : Int) : Fx := [((.le (.c lo) x), true), ((.le x (.c hi)), true)]
def six : List SK := [.int .i64, .int .i64, .int .i64, .int .i64, .int .i64, .int .i64]
def e9a : SE := .ap 0 (.b (.v 0) (.i (.v 2) (.i (.v 6) .nil)))
def e9b : SE := .ap 1 (.b (.v 0) (.i (.v 2) (.i (.v 6) (.i (.v 7) .nil))))
def e9c : SE := .ap 2 (.b (.v 0) (.i (.v 2) (.i (.v 4) (.i (.v 6) (.i (.v 7) .nil)))))
def e9d : SE := .ap 3 (.b (.v 0) (.i (.v 2) (.i (.v 4) (.i (.v 5) (.i (.v 6) (.i (.v 7) .nil))))))
/-- UpdateRTT. -/
def ct9 : Ct where
  g := 9
  args := [.ptr 0 Off.z, .int .i64 (.v 6), .int .i64 (.v 7)]
  heap := [.cells [.bool (.v 0), .int .i64 (.v 2), .int .i64 (.v 3), .int .i64 (.v 4), .int .i64 (.v 5), .int .i64 (.v 0)] 44]
  pre := bd (.v 6) 1000 2000000000 ++ bd (.v 7) 0 100000000 ++ bd (.v 2) 1 2000000000 ++ bd (.v 4) 0 2000000000 ++ bd (.v 5) 0 2000000000
  alts := [{ res := .tup [], post := [.cells [.bool (.c true), .int .i64 e9a, .int .i64 e9b, .int .i64 e9c, .int .i64 e9d, .int .i64 (.v 0)] 44], facts := bd e9a 1 2000000000 ++ bd e9c 0 2000000000 ++ bd e9d 0 2000000000 }]
def okf : List Nat := [3, 4, 5, 6, 7, 8, 9, 10, 11, 12, 13, 14, 15, 16, 17, 18, 19]
def prm9 (P : Program) : Prm := { P, gm := [], okf, mts := [], dfr := [], sl := [], ct := [] }
/-- RTPlay: 0 the delay, 1 how many steps. -/
def ct4 : Ct where
  g := 4
  args := [.int .i64 (.v 0), .own 0]
  heap := [.row (.v 0) [.int .i64, .int .i64] (.v 1) [] 27]
  pre := bd (.v 0) 0 1000000000 ++ bd (.v 1) 0 1000 ++ [((.ap 0 (.a (.v 0) (.i (.v 1) .nil))), true)]
  alts := [{ res := .own 1, post := [.row (.v 0) [.int .i64, .int .i64] (.v 1) [] 27, .row (.ap 0 (.i (.v 0) (.a (.v 0) .nil))) six (.v 1) [] 30] }]
def prm4 (P : Program) : Prm := { P, gm := [], okf, mts := [], dfr := [], sl := [(4, 4)], ct := [ct9] }
def pts4 (P : Program) : List Pt := [{ r := 4, b := loopB P 4 4, K := loopK P 4 4, n := 45, tmps := [(4, .own 1), (5, .ptr 2 Off.z), (13, .own 0), (14, .int .i64 (.v 1)), (15, .int .i64 (.v 7))], heap := [.row (.v 0) [.int .i64, .int .i64] (.v 1) [] 27, .row (.v 1) six (.v 7) [] 30, .cells [.bool (.v 0), .int .i64 (.v 2), .int .i64 (.v 3), .int .i64 (.v 4), .int .i64 (.v 5), .int .i64 (.v 0)] 44], facts := bd (.v 0) 0 1000000000 ++ bd (.v 1) 0 1000 ++ bd (.v 7) 0 1000 ++ bd (.v 2) 1 2000000000 ++ bd (.v 4) 0 2000000000 ++ bd (.v 5) 0 2000000000 }] 
end Go.Proofs.Ytiadjdnipheghaa
