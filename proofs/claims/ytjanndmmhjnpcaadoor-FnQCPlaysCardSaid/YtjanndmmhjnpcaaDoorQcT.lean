/- The specification's ids of a peer, as patterns: next, put, issued. -/
import Derived.Test.YtjanndmmhjnpcaaDoorQcK
set_option autoImplicit true
set_option relaxedAutoImplicit true
set_option linter.unusedVariables false
namespace Go.Proofs.YtjanndmmhjnpcaaDoor
open Go Go.Sy
def spc (q : SV) (act hi : SE) (rdy : SB) (pk every : SE) : SBlk := .cells [.int .u64 act, q, .int .u64 hi, .bool rdy, .int .u64 pk, .int .u64 every, .int .u64 perE] 80
def spV (q : SV) : SBlk := spc q (.v 10) (.v 11) (.v 0) (.v 13) (.v 14)
def quW : SBlk := quV 1003
def ct29 : Ct where
  g := 29
  args := [.ptr 0 Off.z]
  heap := [spV (.own 1), quW]
  pre := bd (.v 0) 1 100 ++ bd (.v 10) 0 255 ++ bd (.v 11) 0 255
  alts := [{ res := .int .u64 (.v 10), post := [spc (.own 2) (.rd (.v 0) (.c 0)) (.mx (.v 11) (.v 10)) (.v 0) (.c 0) perE, .dead, quB 1003 (.sub (.v 0) (.c 1)) (.v 9) (.dr (.v 0) (.c 1))] }]
def ct40 : Ct where
  g := 40
  args := [.ptr 0 Off.z, .int .u64 (.v 1)]
  heap := [spV (.own 1), quW]
  pre := bd (.v 0) 0 50 ++ bd (.v 1) 0 255 ++ [srt (.v 0) (.v 0)]
  alts := [{ res := .tup [], post := [spV (.own 2), .dead, quB 1003 (f3 5 (.v 0) (.v 0) (.v 1)) (.v 9) (a3 5 (.v 0) (.v 0) (.v 1))] }]
def btW : List Bt := [btQuLen 34 1003, btQuIx 34 1003 qw, btQuLd 29 1003 qw (.int .u64 (.rd (.v 0) (.v 1)))]
def btApp44 : Bt := { btQuApp 34 1003 qw with sel := fun op => match op with | .call { callee := .builtin .append, args := ⟨[.tmp 44, x]⟩, argTypes := ⟨[34, 34]⟩ } => some [.tmp 44, x] | _ => none }
def prm28 (P : Program) : Prm := { P, gm := [], okf, mts := [], dfr := [], sl := [(28, 5)], ct := [ct29, ct40], bt := btW ++ [btApp44] }
def upS (x y : SE) : SE := .ite (.ap 10 sl4) x y
def qoC (A : AE) (n act hi : SE) : SB := .ap 2 (.a (.ap 1 (.a A (.i n (.a (.tl A (.c 0) .nil) .nil)))) (.i n (.i act (.i hi .nil))))
def ct28 : Ct where
  g := 28
  args := [.ptr 0 Off.z, .int .u64 (.v 1), .int .u64 (.v 15)]
  heap := [spV (.own 1), quW]
  pre := bd (.v 0) 0 3 ++ bd (.v 1) 0 255 ++ bd (.v 15) 0 255 ++ bd (.v 10) 0 255 ++ bd (.v 11) 0 255 ++ bd (.v 12) 0 4294967295 ++ [((.le (.v 15) (.v 1)), true), (qoC (.v 0) (.v 0) (.v 10) (.v 11), true)]
  alts := [{ res := .tup [.int .i64 (.ite (.le (.c 4) (.ap 10 sl6)) (.c 9) (.c 0)), .own 3], post := [spc (.own 2) (.ap 11 sl6) (.ap 12 sl4) (.v 0) (upS (.c 0) (.v 13)) (upS perE (.v 14)), .dead, quB 1003 (.ap 10 sl6) (.v 9) (.ap 10 sl6), rw64 (.ap 13 sl6) (.ap 13 sl6)] }]
def pts28 (P : Program) : List Pt := [
  { r := 5, b := loopB P 28 5, K := loopK P 28 5, n := 90, tmps := [(0, .ptr 0 Off.z), (1, .int .u64 (.v 1)), (2, .int .u64 (.v 15)), (8, .own 2), (9, .own 3), (31, .own 1), (32, .int .i64 (.v 0)), (33, .int .i64 (.v 133))], ds := [],
    heap := [spV (.own 1), quW, rw64 (.v 121) (.v 132), quB 1003 (.v 130) (.v 9) (.v 120)],
    facts := ct28.pre ++ bd (.v 133) 0 50 ++ bd (.v 130) 0 50 ++ bd (.v 132) 0 50 ++ [((.lt (.v 1) (.v 10)), false), ((.lt (.v 1) (.v 11)), false), srt (.v 120) (.v 130)] }]
def recW : SBlk := recB 1001 (.v 30) (.v 30) (.v 31) (.v 32) (.v 33) (.v 34)
def nsW : SV := .sa (.rd (.v 31) (.v 25)) (.c 0) (.rd (.v 32) (.v 25)) (.rd (.v 33) (.v 25))
def iz : SE := idxE 3 0
def ct10w : Ct where
  g := 10
  args := [nsV iz, nsW]
  heap := [recV 1000, recW]
  pre := idxP ++ [((.lt (.v 25) (.v 30)), true), ((.le (.c 0) (.rd (.v 2) iz)), true), ((.le (.rd (.v 2) iz) (.c 64)), true), ((.le (.c 0) (.rd (.v 32) (.v 25))), true), ((.le (.rd (.v 32) (.v 25)) (.c 64)), true)]
  alts := [{ res := .bool (.ap 15 (.a (.v 4) (.i (SE.mkMul iz (.c 64)) (.i (.rd (.v 2) iz) (.a (.v 34) (.i (SE.mkMul (.v 25) (.c 64)) (.i (.rd (.v 32) (.v 25)) .nil))))))), post := [recV 1000, recW] }]
def btNW : List Bt := [btNsLen 34 1001 (.v 25) idxP, btNsIx 34 1001 (.v 25) idxP, btNsLd 29 1001 (.v 25) idxP 64 .u64]
def prm10w (P : Program) : Prm := { P, gm := [], okf, mts := [], dfr := [], sl := [(10, 4)], ct := [], bt := btN iz idxP ++ btNW }
def pts10w (P : Program) : List Pt := [
  { r := 4, b := loopB P 10 4, K := loopK P 10 4, n := 26, tmps := [(0, nsV iz), (1, nsW), (12, .int .i64 (.rd (.v 2) iz)), (13, .int .i64 (.v 130))], ds := [], heap := [recV 1000, recW], facts := ct10w.pre ++ bd (.v 130) 0 64 ++ [((.eq (.rd (.v 2) iz) (.rd (.v 32) (.v 25))), true)] }]
def ct4 : Ct where
  g := 4
  args := [.int .u8 (.v 30), .int .u32 (.v 12), .slice 0 Off.z (.v 1) (.v 3)]
  heap := [.arr (.v 0) [.int .u8] (.v 1)]
  pre := ct3.pre
  alts := [{ res := .bool (.c true), post := [.arr (.v 0) [.int .u8] (.v 1)] }]
def btApp43 : Bt := btRecApp 42 1001 1 r1
def prm4 (P : Program) : Prm := { P, gm := [], okf, mts := [], dfr := [], sl := [(4, 9), (4, 19)], ct := [ct5, ct6, ct7, ct10w, ct28, ct29], bt := btR ++ btW ++ [btApp43, btRecLen 42 1001, btRecIx 42 1001 r1, btRecLd 34 1001 r1 0], recs := true }
def stF : Fx := bd (.v 130) 0 50 ++ bd (.v 140) 0 40 ++ bd (.v 131) 0 3 ++ bd (.v 110) 0 255 ++ bd (.v 111) 0 255 ++ bd (.v 113) 0 1000000000000000000 ++ bd (.v 114) 0 1000000000 ++ [((.le (.v 111) (.v 110)), true), (qoC (.v 100) (.v 131) (.v 110) (.v 111), true)]
def hp4 : List SBlk := [.arr (.v 0) [.int .u8] (.v 1), spc (.own 2) (.v 110) (.v 111) (.v 100) (.v 113) (.v 114), quB 1003 (.v 131) (.v 9) (.v 100), .row (.v 105) sk5 (.v 140) [] 33, .row (.v 106) sk5 (.v 130) [] 33, .row (.v 107) [.int .i64] (.v 130) [] 3, .row (.v 108) [.int .u64] (.v 130) [] 29, recB 1001 (.v 130) (.v 120) (.v 121) (.v 122) (.v 123) (.v 124)]
def slU : SL := .a (.v 106) (.i (.v 12) .nil)
def pts4 (P : Program) : List Pt := [
  { r := 9, b := loopB P 4 9, K := loopK P 4 9, n := 128, tmps := [(0, .int .u8 (.v 30)), (1, .int .u32 (.v 12)), (7, .ptr 1 Off.z), (8, .own 4), (9, .own 5), (10, .own 6), (11, .own 7), (26, .own 3), (27, .int .i64 (.v 140)), (28, .int .i64 (.v 130))], ds := [], heap := hp4, facts := ct4.pre ++ stF },
  { r := 19, b := loopB P 4 19, K := loopK P 4 19, n := 128, tmps := [(8, .own 1), (9, .own 2), (10, .own 3), (11, .own 4), (17, .own 5), (78, .int .i64 (.v 141)), (79, .int .i64 (.v 142))], ds := [],
    heap := [.arr (.v 0) [.int .u8] (.v 1), .row (.v 106) sk5 (.v 141) [] 33, .row (.v 107) [.int .i64] (.v 141) [] 3, .row (.v 108) [.int .u64] (.v 141) [] 29, recB 1001 (.v 141) (.v 120) (.v 121) (.v 122) (.v 123) (.v 124), recB 1000 (.v 141) (.ap 20 slU) (.v 151) (.ap 21 slU) (.v 153) (.ap 22 slU)],
    facts := ct4.pre ++ bd (.v 141) 0 50 ++ bd (.v 142) 0 50 }]
def ct4n : Ct where
  g := 4
  args := [.int .u8 (.v 30), .int .u32 (.v 12), .nilslice]
  heap := []
  pre := bd (.v 30) 0 255 ++ bd (.v 12) 0 4294967295
  alts := [{ res := .bool (.c true), post := [] }]
def prm4n (P : Program) : Prm := { P, gm := [], okf, mts := [], dfr := [], sl := [], ct := [ct6, ct7], bt := btR }
end Go.Proofs.YtjanndmmhjnpcaaDoor
