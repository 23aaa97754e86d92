/- The contracts of a script's bytes and steps, as patterns. -/
import Derived.Test.YtpjifimjoinnnaaDoorFcE
set_option autoImplicit true
set_option relaxedAutoImplicit true
set_option linter.unusedVariables false
namespace Go.Proofs.YtpjifimjoinnnaaDoor
open Go Go.Sy
def codB : SBlk := .arr (.v 5) [.int .u8] (.v 50)
def winB (b : Nat) (o l c : SE) : SBlk := .cells [.slice b ⟨o, 1, 0⟩ l c] 25
def codF : Fx := bd (.v 50) 0 4294967296 ++ bd (.v 51) 0 4294967296 ++ bd (.v 52) 0 4294967296 ++ bd (.v 53) 0 9223372036854775807 ++ [((.le (.v 52) (.v 53)), true), ((.le (.add (.v 51) (.v 52)) (.v 50)), true), ((.ap 1 (.a (.v 5) (.i (.v 50) .nil))), true)]
def codX (o l c : SE) : Fx := bd o 0 4294967296 ++ bd l 0 4294967296 ++ bd c 0 9223372036854775807 ++ [((.le l c), true), ((.le (.add o l) (.v 50)), true), ((.le l (.v 52)), true), ((.and (.lt (.c 0) (.v 52)) (.not (.lt l (.v 52)))), false)]
def ct4 : Ct where
  g := 4
  args := [.ptr 1 Off.z]
  heap := [codB, winB 0 (.v 51) (.v 52) (.v 53)]
  pre := codF
  nx := 4
  alts := [{ res := .int .i64 (.v 500), post := [codB, winB 0 (.v 501) (.v 502) (.v 503)], xf := bd (.v 500) 0 255 ++ codX (.v 501) (.v 502) (.v 503) }]
def prm4 (P : Program) : Prm := { P, gm := [], okf, mts := [], dfr := [], sl := [], ct := [] }
def stA' (k : Nat) : SBlk := .cells ((((List.range 10).map fun i => SV.int .i64 (.v i)) ++ [.bool (.v 10), .bool (.v 11)]) ++ [.own k, .int .i64 (.v 40), .bool (.v 12)]) 50
def rX (c : Nat) : SE := .rd (.v 0) (if c = 0 then .mul (.v 501) (.c 12) else .add (.mul (.v 501) (.c 12)) (.c c))
def imp (a b : SB) : SB × Bool := (.and a (.not b), false)
def ct6 : Ct where
  g := 6
  args := [.ptr 1 Off.z, .ptr 2 Off.z, .int .i64 (.v 64)]
  heap := [codB, winB 0 (.v 51) (.v 52) (.v 53), stA' 3, .row (.v 0) rowP (.v 41) [] 47]
  pre := codF ++ bd (.v 0) 0 1000000 ++ bd (.v 2) 0 1000000 ++ bd (.v 7) 0 1000000 ++ bd (.v 8) 0 1000000 ++ [((.le (.v 7) (.v 8)), true), ((.le (.v 0) (.v 2)), true), ((.ap 2 (.a (.v 0) (.i (.v 41) .nil))), true)] ++ bd (.v 41) 1 3
  nx := 7
  alts := [{ res := .tup [.agg [.int .i64 (.v 500), .int .i64 (.v 501), .int .i64 (.v 502), .int .i64 (.v 503), .int .i64 (.v 64), .bool (.v 500)], .bool (.v 501)], post := [codB, winB 0 (.v 504) (.v 505) (.v 506), stA' 3, .row (.v 0) rowP (.v 41) [] 47], xf := bd (.v 500) 0 11 ++ [((.le (.c 0) (.v 501)), true), ((.lt (.v 501) (.v 41)), true)] ++ bd (.v 502) 0 260000000 ++ bd (.v 503) 0 1000000 ++ codX (.v 504) (.v 505) (.v 506) ++
      [imp (.and (.v 501) (nz (rX 11))) (.lt (.c 3) (.v 500)), imp (.eq (.v 500) (.c 1)) (.le (.add (rX 1) (.v 502)) (rX 0)), imp (.eq (.v 500) (.c 7)) (.le (.add (rX 7) (.v 502)) (rX 8)), imp (.eq (.v 500) (.c 7)) (.le (.add (.v 7) (.v 502)) (.v 8)),
       imp (.eq (.v 500) (.c 11)) (.le (.c 1000000) (.v 502)), imp (.and (.v 501) (.eq (.v 500) (.c 11))) (.not (.v 12)), imp (.lt (.v 500) (.c 11)) (.le (.v 502) (.c 1000000)), ((.le (.v 503) (.add (rX 0) (.c 510))), true)] }]
def prm6 (P : Program) : Prm := { P, gm := [], okf, mts := [], dfr := [], sl := [], ct := [ct4] }
end Go.Proofs.YtpjifimjoinnnaaDoor
