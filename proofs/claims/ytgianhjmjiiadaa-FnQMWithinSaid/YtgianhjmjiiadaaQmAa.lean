/- The trackers of the first spaces, as patterns: no frame is kept (kn), or one is (kt). -/
import Derived.Test.YtgianhjmjiiadaaQmC
set_option autoImplicit true
set_option relaxedAutoImplicit true
set_option linter.unusedVariables false
namespace Go.Proofs.Ytgianhjmjiiadaa
open Go Go.Sy
def kd (q la : SV) (c0 c1 ce db : SE) (nw : SB) : SBlk := .cells [.int .u64 c0, .int .u64 c1, .int .u64 ce, q, .int .i64 db, la, .bool nw] 82
def kdV (q la : SV) : SBlk := kd q la (.v 31) (.v 32) (.v 33) (.v 6) (.v 0)
def kdG (la : SV) : SBlk := kd (.own 1) la (.v 31) (.v 32) (.v 33) (.v 6) (.c false)
def ct33kn : Ct where
  g := 33
  args := [.ptr 0 Off.z]
  heap := [kdV (.own 1) .nilptr, iv0]
  pre := newF
  alts := [{ c := .not (.v 0), res := .nilptr, post := [kdV (.own 1) .nilptr, iv0] }, { res := .ptr 3 Off.z, post := [kdG (.ptr 3 Off.z), iv0, rw67 rvE (.v 0), frB 2 (.c 0) (.v 31) (.v 32) (.v 33)] }]
end Go.Proofs.Ytgianhjmjiiadaa
