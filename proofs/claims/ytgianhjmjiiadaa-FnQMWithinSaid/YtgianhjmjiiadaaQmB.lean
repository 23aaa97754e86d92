/- The script of what is received, as patterns. -/
import Derived.Test.YtgianhjmjiiadaaQmF
set_option autoImplicit true
set_option relaxedAutoImplicit true
set_option linter.unusedVariables false
namespace Go.Proofs.Ytgianhjmjiiadaa
open Go Go.Sy
def sk8 : List SK := [.int .i64, .int .i64, .int .i64, .int .i64, .bool, .bool]
def scr : SBlk := .row (.v 5) sk8 (.v 60) [] 26
def slS : SL := .a (.v 5) .nil
def sokF : SB × Bool := ((.ap 10 (.a (.v 5) (.i (.v 60) .nil))), true)
def ct19 : Ct where
  g := 19
  args := [.int .i64 (.v 1)]
  heap := []
  pre := bd (.v 1) 0 3
  alts := [{ res := .int .u8 (.ite (.eq (.v 1) (.c 1)) (.c 2) (.ite (.eq (.v 1) (.c 2)) (.c 3) (.ite (.eq (.v 1) (.c 3)) (.c 4) (.c 1)))), post := [] }]
def prm19 (P : Program) : Prm := { P, gm := [], okf, mts := [], dfr := [], sl := [], ct := [] }
def ct8 : Ct where
  g := 8
  args := [.int .i64 (.c 2), .own 0]
  heap := [scr]
  pre := bd (.v 60) 0 63 ++ [sokF]
  alts := [{ res := .tup [.own 1, .bool (.c true)], post := [scr, recB 1000 (.v 60) (.ap 20 slS) (.v 500) (.ap 21 slS) (.v 501) (.ap 22 slS)] }]
  nx := 2
def rs (c : Int) : SE := .rd (.v 5) (if c = 0 then .mul (.v 110) (.c 6) else .add (.mul (.v 110) (.c 6)) (.c c))
def hs8 : Fx := bd (rs 1) 0 3 ++ bd (rs 2) 0 400 ++ bd (rs 3) 0 1000000000000000
def prm8 (P : Program) : Prm := { P, gm := [], okf, mts := [], dfr := [13], sl := [(8, 7), (8, 19)], ct := [ct19, ct39 laN an2, ct39 laT an3, ct32n, ct32x, ct33n, ct33t, ct49 laN an2, ct49 laT an3], bt := [btRecApp 29 1000 1 rq], hint := [(8, 8, hs8)], recs := true }
def hd1 (la : SV) : SBlk := .cells [.ptr 2 Off.z, .ptr 3 Off.z, .int .u64 (.v 131), .int .u64 (.v 132), .int .u64 (.v 133), .own 5, .int .i64 (.v 106), la, .bool (.v 100), .int .i64 (.v 134), .int .i64 (.v 135), .int .i64 (.v 136), .bool (.v 101), .int .i64 (.v 137), .int .i64 (.v 138), .int .i64 (.v 139)] 88
def pf8 : Fx := ct8.pre ++ bd (.v 110) 0 63 ++ bd (.v 100) 0 51 ++ [rgF (.v 100) (.v 100), ((.le (.v 106) (.v 136)), true), ((orB (.not (.v 100)) (.le (.c 1) (.v 100))), true)] ++ bd (.v 106) (-1) 1000 ++ bd (.v 131) 0 63 ++ bd (.v 132) 0 63 ++ bd (.v 133) 0 63 ++ bd (.v 134) 0 1000000000000000 ++ bd (.v 135) 0 400 ++ bd (.v 136) 0 400 ++ bd (.v 137) 0 63 ++ bd (.v 138) 0 2000000000000000 ++ bd (.v 139) (-1) 400
def rdF8 : Fx := bd (.v 140) 1 51 ++ [((.ap 2 (.a (.v 102) (.i (.v 140) .nil))), true)]
def tm8 : List (Nat × SV) := [(0, .int .i64 (.c 2)), (4, .own 6), (5, .ptr 1 Off.z), (6, .ptr 4 Off.z), (7, .int .u8 (.c 4)), (21, .own 0), (22, .int .i64 (.v 60)), (23, .int .i64 (.v 110))]
def hp8 (la : SV) : List SBlk := [scr, .cells [.bool (.c false)] 4, .any, .any, hd1 la, iv (.v 100) (.v 100), recB 1000 (.v 110) (.v 120) (.v 121) (.v 122) (.v 123) (.v 124)]
def fr8 : List SBlk := [.cells [.own 8, .int .i64 (.v 141), .int .u64 (.v 142), .int .u64 (.v 143), .int .u64 (.v 144)] 65, rw67 (.v 102) (.v 140)]
def ds8 : List SD := [{ fn := 13, args := [.ptr 1 Off.z], cap := [] }]
def x8 : List SBlk := [.cells [.bool (.c true), .bool (.c false), .own 10, .int .i64 (.v 151), .int .i64 (.c 0), .int .u64 (.v 131), .int .u64 (.v 132), .int .u64 (.v 133)] 35, .row (.v 103) [.int .i64, .int .i64] (.v 150) [] 36]
def pt19 (P : Program) : Pt :=
  { r := 19, b := loopB P 8 19, K := loopK P 8 19, n := 129, tmps := tm8 ++ [(10, .ptr 9 Off.z), (88, .own 8), (89, .int .i64 (.v 140)), (90, .int .i64 (.v 150))], ds := ds8, heap := hp8 (.ptr 7 Off.z) ++ fr8 ++ x8, facts := pf8 ++ rdF8 ++ bd (.v 150) 0 51 ++ [((.le (.v 150) (.v 140)), true), ((.lt (.v 110) (.v 60)), true)] }
def pts8 (P : Program) : List Pt := [
  { r := 7, b := loopB P 8 7, K := loopK P 8 7, n := 129, tmps := tm8, ds := ds8, heap := hp8 .nilptr, facts := pf8 },
  { r := 7, b := loopB P 8 7, K := loopK P 8 7, n := 129, tmps := tm8, ds := ds8, heap := hp8 (.ptr 7 Off.z) ++ fr8, facts := pf8 ++ rdF8 },
  pt19 P]
end Go.Proofs.Ytgianhjmjiiadaa
