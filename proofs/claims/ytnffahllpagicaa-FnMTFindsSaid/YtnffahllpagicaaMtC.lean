/- The contracts of MTPlay and of what it calls, as patterns, and its points. -/
import Derived.Test.YtnffahllpagicaaMtN
set_option linter.unusedVariables false
namespace Go.Proofs.Ytnffahllpagicaa
open Go Go.Sy

/-- What the names stand for: 0 the greatest size; 1 to 3 the lost ones behind an acknowledgement, 4 to 6 behind a loss; of rows: 0 what MTPlay tells; of truth values: 0 the steps are in their ranges. -/
noncomputable def fns : Fns where
  f k l := match k, l with
    | 0, [.i a, .i b, .i c] => mxL a b c
    | 1, [.i a, .i b, .i c, .i s] => akA a b c s
    | 2, [.i a, .i b, .i c, .i s] => akB a b c s
    | 3, [.i a, .i b, .i c, .i s] => akC a b c s
    | 4, [.i a, .i b, .i c, .i s] => loA a b c s
    | 5, [.i a, .i b, .i c, .i s] => loB a b c s
    | 6, [.i a, .i b, .i c, .i s] => loC a b c s
    | _, _ => 0
  g k l := match k, l with
    | 0, [.i least, .i most, .a st, .i n] => (open Classical in decide (scrOk least most st n.toNat))
    | _, _ => false
  a k l := match k, l with
    | 0, [.i least, .i most, .a st] => outA least most st
    | _, _ => fun _ => 0
def bd (x : SE) (lo hi : Int) : Fx := [((.le (.c lo) x), true), ((.le x (.c hi)), true)]
def okf : List Nat := [3, 4, 5, 6, 7, 8, 9, 10, 11, 12, 13, 14, 15, 16, 17, 18, 19, 20, 21, 22, 23, 24, 25, 26, 27, 28, 29, 31, 32, 33, 34, 35, 54, 55]
def rowI : List SK := [.int .i64, .int .i64, .int .i64, .int .i64]
def rowO : List SK := [.bool, .bool, .int .i64, .int .i64]
def l4 (k : Nat) (s : SE) : SE := .ap k (.i (.v 11) (.i (.v 12) (.i (.v 13) (.i s .nil))))
def mtu (lp fl mn a b c : SE) (wl : SB) (r : Nat) : SBlk := .cells [.int .i64 lp, .ptr r Off.z, .int .i64 fl, .int .i64 mn, .int .i64 a, .int .i64 b, .int .i64 c, .bool wl, .int .u8 (.c 0)] 74
def rtt (x : SE) : SBlk := .cells [.bool (.v 0), .int .i64 (.v 4), .int .i64 (.v 5), .int .i64 x, .int .i64 (.v 7), .int .i64 (.c 0)] 58
def lostB : Fx := bd (.v 11) 0 4096 ++ bd (.v 12) (-1) 4096 ++ bd (.v 13) (-1) 4096
/-- The greatest size. -/
def ct35 : Ct where
  g := 35
  args := [.ptr 1 Off.z]
  heap := [rtt (.v 6), mtu (.v 8) (.v 9) (.v 10) (.v 11) (.v 12) (.v 13) (.v 1) 0]
  pre := lostB
  alts := [{ res := .int .i64 (.ap 0 (.i (.v 11) (.i (.v 12) (.i (.v 13) .nil)))), post := [rtt (.v 6), mtu (.v 8) (.v 9) (.v 10) (.v 11) (.v 12) (.v 13) (.v 1) 0], facts := bd (.ap 0 (.i (.v 11) (.i (.v 12) (.i (.v 13) .nil)))) 0 4096 }]
def hdl : SBlk := .cells [.ptr 1 Off.z, .int .u8 (.c 0)] 81
def ping : SBlk := .cells [] 78
/-- A probe is acknowledged. -/
def ct54 : Ct where
  g := 54
  args := [.ptr 2 Off.z, .ifc 76 (.ptr 3 Off.z)]
  heap := [rtt (.v 6), mtu (.v 8) (.v 9) (.v 10) (.v 11) (.v 12) (.v 13) (.v 1) 0, hdl, ping]
  pre := lostB ++ bd (.v 9) 0 4096
  alts := [{ res := .tup [], post := [rtt (.v 6), mtu (.v 8) (.c (-1)) (.v 9) (l4 1 (.v 9)) (l4 2 (.v 9)) (l4 3 (.v 9)) (.c false) 0, hdl, ping], facts := bd (l4 1 (.v 9)) 0 4096 ++ bd (l4 2 (.v 9)) (-1) 4096 ++ bd (l4 3 (.v 9)) (-1) 4096 }]
/-- A probe is lost. -/
def ct55 : Ct where
  g := 55
  args := [.ptr 2 Off.z, .ifc 76 (.ptr 3 Off.z)]
  heap := [rtt (.v 6), mtu (.v 8) (.v 9) (.v 10) (.v 11) (.v 12) (.v 13) (.v 1) 0, hdl, ping]
  pre := lostB ++ bd (.v 9) 0 4096
  alts := [{ res := .tup [], post := [rtt (.v 6), mtu (.v 8) (.c (-1)) (.v 10) (l4 4 (.v 9)) (l4 5 (.v 9)) (l4 6 (.v 9)) (.c true) 0, hdl, ping], facts := bd (l4 4 (.v 9)) 0 4096 ++ bd (l4 5 (.v 9)) (-1) 4096 ++ bd (l4 6 (.v 9)) (-1) 4096 }]
def prmS (P : Program) : Prm := { P, gm := [], okf, mts := [], dfr := [], sl := [], ct := [] }
/-- MTPlay: 0 the least size, 1 the most, 2 how many steps. -/
def ct4 : Ct where
  g := 4
  args := [.int .i64 (.v 0), .int .i64 (.v 1), .own 0]
  heap := [.row (.v 0) rowI (.v 2) [] 24]
  pre := bd (.v 0) 0 4096 ++ bd (.v 1) 0 4096 ++ bd (.v 2) 0 1000 ++ [((.ap 0 (.i (.v 0) (.i (.v 1) (.a (.v 0) (.i (.v 2) .nil))))), true)]
  alts := [{ res := .tup [.own 1, .bool (.c true)], post := [.row (.v 0) rowI (.v 2) [] 24, .row (.ap 0 (.i (.v 0) (.i (.v 1) (.a (.v 0) .nil)))) rowO (.v 2) [] 30] }]
def kE : SE := .rd (.v 0) (.mul (.v 3) (.c 4))
def aE : SE := .rd (.v 0) (.add (.mul (.v 3) (.c 4)) (.c 1))
def prm4 (P : Program) : Prm := { P, gm := [], okf, mts := [(79, "OnAcked", 54), (79, "OnLost", 55)], dfr := [6], sl := [(4, 6)], ct := [ct35, ct54, ct55], hint := [
  (4, 9, bd kE 0 6 ++ bd aE 0 1152921504606846976 ++ [((.eq kE (.c 5)), false)]),
  (4, 18, [((.eq (.v 9) (.c (-1))), false)]),
  (4, 26, bd aE 1000000 256000000 ++ [((.v 0), false)])] }
def hp (fr : List SV) (more : List SBlk) : List SBlk := [.row (.v 0) rowI (.v 2) [] 24, .row (.v 1) rowO (.v 3) [] 30, .cells [.bool (.c false)] 4, rtt (.v 6), mtu (.v 8) (.v 9) (.v 10) (.v 11) (.v 12) (.v 13) (.v 1) 3, .cells [.ptr 4 Off.z] 64, .cells fr 43] ++ more
def fc : Fx := bd (.v 0) 0 4096 ++ bd (.v 1) 0 4096 ++ bd (.v 2) 0 1000 ++ bd (.v 3) 0 1000 ++ bd (.v 6) 0 1000000000 ++ bd (.v 8) 0 1152921504606846976 ++ bd (.v 10) 0 4096 ++ lostB
def tms : List (Nat × SV) := [(6, .own 1), (7, .ptr 2 Off.z), (8, .ptr 3 Off.z), (9, .ptr 5 Off.z), (10, .ptr 6 Off.z), (19, .own 0), (20, .int .i64 (.v 2)), (21, .int .i64 (.v 3))]
def pts4 (P : Program) : List Pt := [
  { r := 6, b := loopB P 4 6, K := loopK P 4 6, n := 102, tmps := tms, ds := [{ fn := 6, args := [.ptr 2 Off.z], cap := [] }], heap := hp [.nilif, .nilif] [], facts := fc ++ [((.eq (.v 9) (.c (-1))), true)] },
  { r := 6, b := loopB P 4 6, K := loopK P 4 6, n := 102, tmps := tms, ds := [{ fn := 6, args := [.ptr 2 Off.z], cap := [] }], heap := hp [.ifc 76 (.ptr 8 Off.z), .ifc 79 (.ptr 7 Off.z)] [.cells [.ptr 4 Off.z, .int .u8 (.c 0)] 81, ping], facts := fc ++ bd (.v 9) 0 4096 }]
end Go.Proofs.Ytnffahllpagicaa
