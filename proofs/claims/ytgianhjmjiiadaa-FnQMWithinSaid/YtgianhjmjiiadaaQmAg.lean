/- The law that all is told in time, as patterns. -/
import Derived.Test.YtgianhjmjiiadaaQmAe
set_option autoImplicit true
set_option relaxedAutoImplicit true
set_option linter.unusedVariables false
namespace Go.Proofs.Ytgianhjmjiiadaa
open Go Go.Sy
def ct5 : Ct where
  g := 5
  args := [code0, .int .u8 (.v 2)]
  heap := [codeB]
  pre := codeF ++ bd (.v 2) 0 255
  alts := [{ res := .bool (.c true), post := [codeB] }]
def ct5n : Ct where
  g := 5
  args := [.nilslice, .int .u8 (.v 2)]
  heap := []
  pre := bd (.v 2) 0 255
  alts := [{ res := .bool (.c true), post := [] }]
def prm5 (P : Program) : Prm := { P, gm := [], okf, mts := [], dfr := [], sl := [], ct := [ct6, ct8, ct9], bt := [btRecLen 29 1000, btRecIx 29 1000 rq, btRecLd 4 1000 rq 0, btRecAll 1000 rq] ++ btN }
def prm5n (P : Program) : Prm := { P, gm := [], okf, mts := [], dfr := [], sl := [], ct := [ct8, ct9], bt := [btRecLen 29 1000, btRecIx 29 1000 rq, btRecLd 4 1000 rq 0, btRecAll 1000 rq] ++ btN }
end Go.Proofs.Ytgianhjmjiiadaa
