/- The contract of OnCongestionEvent, as a pattern. -/
import Derived.Test.YtlclcnkmdbmceaaCcC
set_option linter.unusedVariables false
namespace Go.Proofs.Ytlclcnkmdbmceaa
open Go Go.Sy

def statsG (cw : SE) : SBlk := .cells [.int .u64 cw, .int .u64 (.c 0), .int .u64 (.c 0), .int .u64 (.c 0), .int .u64 (.c 0), .int .u64 (.wrap .u64 (.add (.v 7) (.v 21))), .int .u64 (.wrap .u64 (.add (.v 8) (.c 1)))] 47
def cubG (m : SE) : SBlk := .cells [.int .i64 (.c 1), .int .i64 (.c 0), .int .i64 m, .int .i64 (.c 0), .int .i64 (.c 0), .int .i64 (.c 0), .int .u32 (.c 0), .int .i64 (.c 0)] 102
def sndG (p : Nat) (lc : SE) (ex : SB) (cw sst uc us ul ue : SE) : SBlk := .cells [.int .i64 (.c 0), .int .i64 (.v 10), .bool (.c false), .int .i64 (.c 0), .int .u32 (.c 0), .bool (.c false), .ptr p Off.z, .ptr (p + 1) Off.z, .ptr (p + 2) Off.z, .ptr (p + 3) Off.z, .bool (.v 0), .int .i64 (.v 11), .int .i64 (.v 12), .int .i64 lc, .bool ex, .int .i64 cw, .int .i64 sst, .int .u64 (.c 0), .int .i64 uc, .int .i64 us, .int .u64 (.c 0), .int .i64 ul, .int .u64 ue, .int .i64 (.mul (.c 32) (.v 1)), .int .i64 (.mul (.c 10000) (.v 1)), .int .i64 (.v 1)] 79
def ct13 : Ct where
  g := 13
  args := [.ptr 4 Off.z, .int .i64 (.v 20), .int .i64 (.v 21), .int .i64 (.v 22)]
  heap := five
  pre := cwB ++ bd (.v 20) 0 1000 ++ bd (.v 21) 0 2000 ++ bd (.v 13) (-1) 1000 ++ bd (.v 11) (-1) 1000
  alts := [
    { c := .le (.v 20) (.v 13), res := .tup [], post := [rtt, statsG (.v 9), cub, pac (.v 5) (.v 6), sndG 0 (.v 13) (.v 1) (.v 14) (.v 15) (.v 16) (.v 17) (.v 18) (l3 8 (.v 19) (.v 20) (.v 18))] },
    { c := .v 0, res := .tup [], post := [rtt, statsG (l2 6 (.v 14) (.v 1)), cub, pac (.v 5) (.v 6), sndG 0 (.v 11) (.lt (.v 14) (.v 15)) (l2 6 (.v 14) (.v 1)) (l2 6 (.v 14) (.v 1)) (.v 14) (.v 15) (.v 13) (.c 1)], facts := bd (l2 6 (.v 14) (.v 1)) 2400 200000 },
    { res := .tup [], post := [rtt, statsG (l2 7 (.v 14) (.v 1)), cubG (l2 9 (.v 14) (.v 4)), pac (.v 5) (.v 6), sndG 0 (.v 11) (.lt (.v 14) (.v 15)) (l2 7 (.v 14) (.v 1)) (l2 7 (.v 14) (.v 1)) (.v 16) (.v 17) (.v 18) (.v 19)], facts := bd (l2 7 (.v 14) (.v 1)) 2400 200000 }]
end Go.Proofs.Ytlclcnkmdbmceaa
