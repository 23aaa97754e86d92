/- One packet more of application data, as patterns: a frame is kept (t), or none (n). -/
import Derived.Test.YtgianhjmjiiadaaQmX
set_option autoImplicit true
set_option relaxedAutoImplicit true
set_option linter.unusedVariables false
namespace Go.Proofs.Ytgianhjmjiiadaa
open Go Go.Sy
def loE : SE := .ite (.le (.v 35) (.v 1)) (.v 1) (.v 35)
def two : SB := .le (.c 2) (.add (.v 37) (.c 1))
def isCE : SB := .eq (.v 50) (.c 4)
def nm2 (lo : SE) : SB := .ap 22 (.a (a3 3 (.v 0) (.v 0) (.v 1)) (.i (f3 3 (.v 0) (.v 0) (.v 1)) (.i lo (.i (.v 6) (.a (.v 2) .nil)))))
def sqE : SB := orB (.v 1) (.and (.v 2) (orB msE (orB two (orB (nm2 loE) isCE))))
def sqN : SB := orB (.v 1) (.and (.v 2) (orB two isCE))
def hd32 (r : Nat) (la : SV) (sq : SB) : SBlk := hd (.own r) la (inc 3 (.v 31)) (inc 2 (.v 32)) (inc 4 (.v 33)) (.v 6) (orB (.v 0) (.v 2)) (.ite (.le (.v 35) (.v 1)) (.v 51) (.v 34)) loE (.v 36) sq (.ite (.v 2) (.add (.v 37) (.c 1)) (.v 37)) (.ite (.v 2) (.ite sq (.ite (.v 1) (.v 38) (.c 0)) (.add (.v 51) (.c 25000000))) (.v 38)) (.v 39)
def rcG : Fx := rcF ++ [((.le (.v 35) (.c 400)), true)]
def args32 : List SV := [trk, .int .i64 (.v 1), .int .u8 (.v 50), .int .i64 (.v 51), .bool (.v 2)]
def ct32x : Ct where
  g := 32
  args := args32
  heap := hpT
  pre := rcG ++ bd (.v 40) 1 61 ++ [rdF]
  alts := [{ res := .nilif, post := [hd32 6 laT sqE, .dead, .any, .any, frB 5 (.v 41) (.v 42) (.v 43) (.v 44), rw67 (.v 2) (.v 40), iv (a3 3 (.v 0) (.v 0) (.v 1)) (f3 3 (.v 0) (.v 0) (.v 1))], facts := adF }]
def prm32x (P : Program) : Prm := { P, gm := [], okf, mts := [], dfr := [], sl := [], ct := [ct30 laT an3, ct41t, ct54t] }
def ct32n : Ct where
  g := 32
  args := args32
  heap := [hdV (.own 1) laN, iv0] ++ an2
  pre := rcG
  alts := [{ res := .nilif, post := [hd32 4 laN sqN, .dead, .any, .any, iv (a3 3 (.v 0) (.v 0) (.v 1)) (f3 3 (.v 0) (.v 0) (.v 1))], facts := adF }]
def prm32n (P : Program) : Prm := { P, gm := [], okf, mts := [], dfr := [], sl := [], ct := [ct30 laN an2] }
end Go.Proofs.Ytgianhjmjiiadaa
