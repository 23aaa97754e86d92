/- The contracts of CCPlay and of what it calls, as patterns, and its points. -/
import Derived.Test.YtlclcnkmdbmceaaCcF
import Derived.Test.YtlclcnkmdbmceaaSyY
set_option linter.unusedVariables false
namespace Go.Proofs.Ytlclcnkmdbmceaa
open Go Go.Sy

/-- The window behind a loss: of Reno, or of Cubic. -/
def winOf (r sz cw : Int) : Int := if r = 0 then winC cw sz else winR cw sz
def rng255 (A : Nat → Int) (n : Nat) : Prop := ∀ j, j < n → 0 ≤ A j ∧ A j ≤ 255
/-- What the names stand for. -/
noncomputable def fns : Fns where
  f k l := if 1000 ≤ k then fbase k l else match k, l with
    | 0, [.i cw, .i sst] => pRate cw sst
    | 1, [.i d, .i rate] => pScale d rate
    | 2, [.i now, .i rate, .i bud, .i last] => pBudget now rate bud last
    | 3, [.i now, .i size, .i rate, .i bud, .i last] => pSent now size rate bud last
    | 4, [.i rate, .i bud, .i last] => pUntil rate bud last
    | 5, [.i cw, .i f, .i sz] => ackCw cw f sz
    | 6, [.i cw, .i sz] => winR cw sz
    | 7, [.i cw, .i sz] => winC cw sz
    | 8, [.i ev, .i n, .i lc] => evs ev n lc
    | 9, [.i cw, .i last] => lastM cw last
    | _, _ => 0
  g k l := if 1000 ≤ k then gbase k l else match k, l with
    | 0, [.i r, .i sz, .a st, .i n] => (open Classical in decide (scrOk (winOf r sz) sz st n.toNat))
    | 1, [.a A, .i n] => (open Classical in decide (rng255 A n.toNat))
    | _, _ => false
  a k l := match k, l with
    | 0, [.i r, .i sz, .a st] => outA (winOf r sz) sz st
    | 1, [.i many, .i sz] => sentA many sz
    | _, _ => fun _ => 0
  fb k l h := if_pos h
  gb k l h := if_pos h
  p k l a v w := match k, l with
    | 0, [.a A, .a B] => MapV w a .i64 0 A (fun z => .bool (B z != 0))
    | k, l => 1000 ≤ k ∧ v = .slice none 0 0 ∧ ∃ r, l = .i 0 :: r
  ft k l a v x := k = 0 ∧ x = a
  pf k l a v w w' h hs := by
    split at h
    · exact MapV.frame h (hs a ⟨rfl, rfl⟩)
    · exact h
  pn k r a w h := by
    split
    · omega
    · exact ⟨h, rfl, _, rfl⟩
  fn k r a x h hh := by omega
theorem mapB : MapB fns 0 .i64 0 := ⟨fun A B a v w => Iff.rfl, fun l a v x => ⟨fun h => h.2, fun h => ⟨rfl, h⟩⟩⟩
def bd (x : SE) (lo hi : Int) : Fx := [((.le (.c lo) x), true), ((.le x (.c hi)), true)]
def okf : List Nat := [3, 4, 5, 6, 7, 8, 9, 10, 11, 12, 13, 14, 15, 16, 17, 18, 19, 20, 21, 22, 23, 24, 25, 26, 27, 28, 29, 30, 31, 32, 33, 34, 35, 36, 37, 38, 39, 40, 41, 42, 43, 44, 45, 46, 47, 48, 49, 50, 51, 53, 54, 55, 56, 57, 58, 60, 61, 62, 63, 64, 65, 66, 67, 68, 69]
def rowI : List SK := [.int .i64, .int .i64, .int .i64, .int .i64, .int .i64, .bool]
def rowO : List SK := [.int .i64, .bool, .bool, .bool, .bool, .int .i64]
def pac (b t : SE) : SBlk := .cells [.int .i64 b, .int .i64 (.c 1280), .int .i64 t] 95
def l2 (k : Nat) (x y : SE) : SE := .ap k (.i x (.i y .nil))
def l3 (k : Nat) (x y z : SE) : SE := .ap k (.i x (.i y (.i z .nil)))
def l4 (k : Nat) (x y z u : SE) : SE := .ap k (.i x (.i y (.i z (.i u .nil))))
def l5 (k : Nat) (x y z u t : SE) : SE := .ap k (.i x (.i y (.i z (.i u (.i t .nil)))))
def prmP (P : Program) : Prm := { P, gm := [], okf, mts := [], dfr := [], sl := [], ct := [] }
/-- How much may be sent in a time. -/
def ct67 : Ct where
  g := 67
  args := [.ptr 0 Off.z, .int .i64 (.v 20), .int .u64 (.v 21)]
  heap := [pac (.v 5) (.v 6)]
  pre := bd (.v 20) 0 10000000000 ++ bd (.v 21) 100000 100000000
  alts := [{ res := .int .i64 (l2 1 (.v 20) (.v 21)), post := [pac (.v 5) (.v 6)], facts := bd (l2 1 (.v 20) (.v 21)) 0 125000000 }]
def pacB : Fx := bd (.v 5) 0 25000 ++ bd (.v 6) 0 10000000000
def ct50 : Ct where
  g := 50
  args := [.ptr 0 Off.z, .int .i64 (.v 20), .int .u64 (.v 21)]
  heap := [pac (.v 5) (.v 6)]
  pre := bd (.v 20) 0 10000000000 ++ bd (.v 21) 100000 100000000 ++ pacB
  alts := [{ res := .int .i64 (l4 2 (.v 20) (.v 21) (.v 5) (.v 6)), post := [pac (.v 5) (.v 6)], facts := bd (l4 2 (.v 20) (.v 21) (.v 5) (.v 6)) 0 25000 }]
def ct29 : Ct where
  g := 29
  args := [.ptr 0 Off.z, .int .i64 (.v 20), .int .i64 (.v 22), .int .u64 (.v 21)]
  heap := [pac (.v 5) (.v 6)]
  pre := bd (.v 20) 0 10000000000 ++ bd (.v 21) 100000 100000000 ++ bd (.v 22) 0 2000 ++ pacB
  alts := [{ res := .tup [], post := [pac (l5 3 (.v 20) (.v 22) (.v 21) (.v 5) (.v 6)) (.v 20)], facts := bd (l5 3 (.v 20) (.v 22) (.v 21) (.v 5) (.v 6)) 0 25000 }]
def ct51 : Ct where
  g := 51
  args := [.ptr 0 Off.z, .int .u64 (.v 21)]
  heap := [pac (.v 5) (.v 6)]
  pre := bd (.v 21) 100000 100000000 ++ pacB
  alts := [{ res := .int .i64 (l3 4 (.v 21) (.v 5) (.v 6)), post := [pac (.v 5) (.v 6)] }]
def prm67 (P : Program) : Prm := { P, gm := [], okf, mts := [], dfr := [], sl := [], ct := [ct67] }
def prm50 (P : Program) : Prm := { P, gm := [], okf, mts := [], dfr := [], sl := [], ct := [ct67, ct50] }
def rtt : SBlk := .cells [.bool (.c false), .int .i64 (.c 100000000), .int .i64 (.c 100000000), .int .i64 (.c 100000000), .int .i64 (.c 0), .int .i64 (.c 0)] 67
def stats (cw : SE) : SBlk := .cells [.int .u64 cw, .int .u64 (.c 0), .int .u64 (.c 0), .int .u64 (.c 0), .int .u64 (.c 0), .int .u64 (.v 7), .int .u64 (.v 8)] 47
def cub : SBlk := .cells [.int .i64 (.c 1), .int .i64 (.c 0), .int .i64 (.v 4), .int .i64 (.c 0), .int .i64 (.c 0), .int .i64 (.c 0), .int .u32 (.c 0), .int .i64 (.c 0)] 102
def snd (p : Nat) (la cw : SE) : SBlk := .cells [.int .i64 (.c 0), .int .i64 (.v 10), .bool (.c false), .int .i64 (.c 0), .int .u32 (.c 0), .bool (.c false), .ptr p Off.z, .ptr (p + 1) Off.z, .ptr (p + 2) Off.z, .ptr (p + 3) Off.z, .bool (.v 0), .int .i64 (.v 11), .int .i64 la, .int .i64 (.v 13), .bool (.v 1), .int .i64 cw, .int .i64 (.v 15), .int .u64 (.c 0), .int .i64 (.v 16), .int .i64 (.v 17), .int .u64 (.c 0), .int .i64 (.v 18), .int .u64 (.v 19), .int .i64 (.mul (.c 32) (.v 1)), .int .i64 (.mul (.c 10000) (.v 1)), .int .i64 (.v 1)] 79
def five : List SBlk := [rtt, stats (.v 9), cub, pac (.v 5) (.v 6), snd 0 (.v 12) (.v 14)]
def cwB : Fx := bd (.v 1) 1200 1455 ++ bd (.v 14) 2400 200000
/-- The pacing rate. -/
def ct30 : Ct where
  g := 30
  args := [.ptr 4 Off.z]
  heap := five
  pre := cwB
  alts := [{ res := .int .u64 (l2 0 (.v 14) (.v 15)), post := five, facts := bd (l2 0 (.v 14) (.v 15)) 100000 100000000 }]
/-- A packet is acknowledged in slow start. -/
def ct12 : Ct where
  g := 12
  args := [.ptr 4 Off.z, .int .i64 (.v 20), .int .i64 (.v 21), .int .i64 (.v 22), .int .i64 (.v 23)]
  heap := five
  pre := cwB ++ bd (.v 20) 0 1000 ++ bd (.v 22) 0 1000000 ++ bd (.v 12) (-1) 1000 ++ bd (.v 14) 2400 190000 ++ [((.eq (.v 13) (.c (-1))), true), ((.eq (.v 15) (.c 4611686018427387903)), true)]
  alts := [{ res := .tup [], post := [rtt, stats (l3 5 (.v 14) (.v 22) (.v 1)), cub, pac (.v 5) (.v 6), snd 0 (.mx (.v 20) (.v 12)) (l3 5 (.v 14) (.v 22) (.v 1))], facts := bd (l3 5 (.v 14) (.v 22) (.v 1)) 2400 200000 }]
end Go.Proofs.Ytlclcnkmdbmceaa
