/- The contracts of the history of received packets, as patterns. -/
import Derived.Test.YtgianhjmjiiadaaQmA
import Derived.Test.YtgianhjmjiiadaaChecked
import Derived.Test.YtgianhjmjiiadaaSyRd
import Derived.Test.YtgianhjmjiiadaaSyMk
set_option autoImplicit true
set_option relaxedAutoImplicit true
set_option linter.unusedVariables false
namespace Go.Proofs.Ytgianhjmjiiadaa
open Go Go.Sy
def okf : List Nat := [3, 4, 5, 6, 7, 8, 9, 10, 11, 12, 13, 14, 15, 16, 17, 18, 19, 20, 21, 22, 23, 24, 25, 26, 27, 28, 29, 30, 31, 32, 33, 34, 35, 36, 37, 38, 39, 40, 41, 42, 43, 44, 45, 46, 47, 48, 49, 50, 51, 52, 53, 54, 55, 56, 57, 58, 59, 60, 61]
def rq : RecP where
  ks := [.bool, .bool, .opq, .int .i64, .int .i64, .int .u64, .int .u64, .int .u64]
  T := 35
  cols := [(2, [.int .i64, .int .i64], 36)]
  W := 128
def pRec (r : RecP) (l : List Arg) (v : Value) (w : World) : Prop := match l with
  | [.i n, .a A, .a B, .a L, .a K, .a C] => RecIs r n.toNat A B L K C v w
  | _ => v = .slice none 0 0
def ftRec (r : RecP) (l : List Arg) (v : Value) (x : Nat) : Prop := match l with
  | [.i n, .a A, .a B, .a L, .a K, .a C] => RecFt r n.toNat B v x
  | _ => v.ownBlock = some x
theorem pRec_frame {r : RecP} {l : List Arg} {v : Value} {w w' : World} (h : pRec r l v w) (hs : ∀ x, ftRec r l v x → w'.heap[x]? = w.heap[x]?) : pRec r l v w' := by
  unfold pRec ftRec at *
  split at h
  · exact RecIs.frame h hs
  · exact h
theorem pRec_nil (r : RecP) (l : List Arg) (w : World) : pRec r (.i 0 :: l) (.slice none 0 0) w := by
  unfold pRec
  split
  · rename_i h; cases h; exact RecIs.nil _ _ _ _ _ _ _
  · rfl
theorem ftRec_nil (r : RecP) (l : List Arg) (x : Nat) : ¬ ftRec r (.i 0 :: l) (.slice none 0 0) x := by
  unfold ftRec
  split
  · rename_i h; cases h
    rintro (h | ⟨i, f, h, _⟩)
    · cases h
    · exact Nat.not_lt_zero _ h
  · intro h; cases h
noncomputable def fns : Fns where
  f k l := if 1000 ≤ k then fbase k l else match k, l with
    | 3, [.a A, .i n, .i p] => addN A n.toNat p
    | 8, [.a A, .i n, .i p] => kR A p n.toNat
    | 7, [.a A, .i n, .i p, .i d] => hm A n.toNat p d
    | 4, [.a A, .i n, .i p] => (n.toNat - dkR A p n.toNat : Nat)
    | 9, [.a B, .i m, .i p] => fiR B p m.toNat
    | _, _ => 0
  g k l := if 1000 ≤ k then gbase k l else match k, l with
    | 1, [.a A, .i n] => (open Classical in decide (Rg A n.toNat))
    | 2, [.a B, .i m] => (open Classical in decide (RgD B m.toNat))
    | 3, [.a A, .i n, .i p] => addB A n.toNat p
    | 6, [.a A, .i n, .i p] => (open Classical in decide (Mem A n.toNat p))
    | 10, [.a S, .i n] => (open Classical in decide (SOk S n.toNat))
    | 11, [.a S, .i n, .i sp] => (open Classical in decide (STok S n.toNat sp))
    | 16, [.a A, .i n] => (open Classical in decide (∀ j : Nat, (j : Int) < n → 0 ≤ A j ∧ A j ≤ 255))
    | 12, [.a C, .i b, .i n, .a B, .i m] => (open Classical in decide (n = m ∧ ∀ j : Nat, (j : Int) < n * 2 → C (b.toNat + j) = B j))
    | 7, [.a B, .i m, .i p] => acks B m.toNat p
    | 21, [.i ign, .i p, .a B, .i m] => decide (ign ≤ p ∧ p < B 1) && !acks B m.toNat p
    | 22, [.a A, .i n, .i lo, .i db, .a B] => decide (1 ≤ lo) && decide (hm A n.toNat (lo - 1) db ≠ -1 ∧ B 1 ≤ hm A n.toNat (lo - 1) db ∧ B 1 - 1 < hm A n.toNat (lo - 1) db)
    | _, _ => false
  a k l := match k, l with
    | 1, [.a C, .i b, .a a] => fun j => if j < b.toNat then C j else a (j - b.toNat)
    | 2, [.a A, .i n, .i i, .a B] => ins2 A n.toNat i.toNat (B 0) (B 1)
    | 3, [.a A, .i n, .i p] => addA A n.toNat p
    | 4, [.a A, .i i, .i m] => del2 A i.toNat m.toNat
    | 5, [.a A, .i n, .i p] => cutA A n.toNat p
    | 8, [.a A, .i n] => rvA A n.toNat
    | 20, [.a S] => colA S
    | 21, [.a S] => colL S
    | 22, [.a S] => colC S
    | _, _ => fun _ => 0
  fb k l h := if_pos h
  gb k l h := if_pos h
  p k l a v w := if k = 1000 then pRec rq l v w else v = .slice none 0 0
  ft k l a v x := if k = 1000 then ftRec rq l v x else v.ownBlock = some x
  pf := by
    intro k l a v w w' h hs
    by_cases h0 : k = 1000
    · simp only [h0, if_true] at h hs ⊢; exact pRec_frame h hs
    · simp only [h0, if_false] at h hs ⊢; exact h
  pn := by
    intro k r a w hk
    by_cases h0 : k = 1000
    · simp only [h0, if_true]; exact pRec_nil _ _ _
    · simp only [h0, if_false]
  fn := by
    intro k r a x hk
    by_cases h0 : k = 1000
    · simp only [h0, if_true]; exact ftRec_nil _ _ _
    · simp only [h0, if_false]; intro h; cases h
def bd (x : SE) (lo hi : Int) : Fx := [((.le (.c lo) x), true), ((.le x (.c hi)), true)]
def a3 (k : Nat) (A : AE) (n p : SE) : AE := .ap k (.a A (.i n (.i p .nil)))
def f3 (k : Nat) (A : AE) (n p : SE) : SE := .ap k (.a A (.i n (.i p .nil)))
def b3 (k : Nat) (A : AE) (n p : SE) : SB := .ap k (.a A (.i n (.i p .nil)))
def rgF (A : AE) (n : SE) : SB × Bool := ((.ap 1 (.a A (.i n .nil))), true)
def iv (A : AE) (n : SE) : SBlk := .row A [.int .i64, .int .i64] n [] 106
def iv0 : SBlk := iv (.v 0) (.v 0)
def ct57 : Ct where
  g := 57
  args := [.own 0, .int .i64 (.v 4), .own 1]
  heap := [iv0, iv (.v 1) (.c 1)]
  pre := bd (.v 0) 1 1000 ++ [((.le (.c 0) (.v 4)), true), ((.le (.v 4) (.v 0)), true)]
  alts := [{ res := .own 2, post := [.dead, iv (.v 1) (.c 1), iv (.ap 2 (.a (.v 0) (.i (.v 0) (.i (.v 4) (.a (.v 1) .nil))))) (.add (.v 0) (.c 1))] }]
def ct51 : Ct where
  g := 51
  args := [.own 0, .int .i64 (.v 4), .int .i64 (.v 5)]
  heap := [iv0]
  pre := bd (.v 0) 1 1000 ++ [((.le (.c 0) (.v 4)), true), ((.lt (.v 4) (.v 5)), true), ((.le (.v 5) (.v 0)), true)]
  alts := [{ res := .own 1, post := [.dead, iv (.ap 4 (.a (.v 0) (.i (.v 4) (.i (.sub (.v 5) (.v 4)) .nil)))) (.sub (.v 0) (.sub (.v 5) (.v 4)))] }]
def hd (q la : SV) (c0 c1 ce db : SE) (nw : SB) (lt lo ig : SE) (qd : SB) (ct al lw : SE) : SBlk :=
  .cells [.ptr 2 Off.z, .ptr 3 Off.z, .int .u64 c0, .int .u64 c1, .int .u64 ce, q, .int .i64 db, la, .bool nw, .int .i64 lt, .int .i64 lo, .int .i64 ig, .bool qd, .int .i64 ct, .int .i64 al, .int .i64 lw] 88
def hdV (q la : SV) : SBlk := hd q la (.v 31) (.v 32) (.v 33) (.v 6) (.v 0) (.v 34) (.v 35) (.v 36) (.v 1) (.v 37) (.v 38) (.v 39)
def hist : SV := .ptr 0 ⟨.c 0, 0, 5⟩
def laN : SV := .nilptr
def laT : SV := .ptr 4 Off.z
def an2 : List SBlk := [.any, .any]
def an3 : List SBlk := [.any, .any, .any]
def adF : Fx := [((.le (.c 1) (f3 3 (.v 0) (.v 0) (.v 1))), true), ((.le (f3 3 (.v 0) (.v 0) (.v 1)) (.add (.v 0) (.c 1))), true), rgF (a3 3 (.v 0) (.v 0) (.v 1)) (f3 3 (.v 0) (.v 0) (.v 1))]
def ct50 (la : SV) (ex : List SBlk) : Ct where
  g := 50
  args := [hist, .int .i64 (.v 1)]
  heap := [hdV (.own 1) la, iv0] ++ ex
  pre := bd (.v 0) 0 60 ++ bd (.v 1) 0 400 ++ [rgF (.v 0) (.v 0)]
  alts := [{ res := .bool (b3 3 (.v 0) (.v 0) (.v 1)), post := [hdV (.own (2 + ex.length)) la, .dead] ++ ex ++ [iv (a3 3 (.v 0) (.v 0) (.v 1)) (f3 3 (.v 0) (.v 0) (.v 1))], facts := adF }]
def prm50 (P : Program) : Prm := { P, gm := [], okf, mts := [], dfr := [], sl := [(50, 5)], ct := [ct57, ct51], hint := [(50, 14, bd (.rd (.v 0) (.add (.mul (.sub (.v 20) (.c 1)) (.c 2)) (.c 1))) 0 1000)] }
def pts50 (P : Program) (la : SV) (ex : List SBlk) : List Pt := [
  { r := 5, b := loopB P 50 5, K := loopK P 50 5, n := 180, tmps := [(0, hist), (1, .int .i64 (.v 1)), (5, .int .i64 (.v 20))], ds := [], heap := (ct50 la ex).heap,
    facts := (ct50 la ex).pre ++ bd (.v 20) (-1) 59 ++ [((.lt (.v 20) (.v 0)), true), ((.le (f3 8 (.v 0) (.v 0) (.v 1)) (.add (.v 20) (.c 1))), true), ((.le (.c 1) (.v 0)), true)] }]
def memB (A : AE) (n p : SE) : SB := b3 6 A n p
def ct39 (la : SV) (ex : List SBlk) : Ct where
  g := 39
  args := [hist, .int .i64 (.v 1)]
  heap := [hdV (.own 1) la, iv0] ++ ex
  pre := bd (.v 0) 0 60 ++ bd (.v 1) 0 400 ++ [rgF (.v 0) (.v 0)]
  alts := [{ c := .lt (.v 1) (.v 6), res := .bool (.c true), post := [hdV (.own 1) la, iv0] ++ ex }, { res := .bool (memB (.v 0) (.v 0) (.v 1)), post := [hdV (.own 1) la, iv0] ++ ex }]
def prm39 (P : Program) : Prm := { P, gm := [], okf, mts := [], dfr := [], sl := [(39, 4)], ct := [] }
def pts39 (P : Program) (la : SV) (ex : List SBlk) : List Pt := [
  { r := 4, b := loopB P 39 4, K := loopK P 39 4, n := 54, tmps := [(0, hist), (1, .int .i64 (.v 1)), (5, .int .i64 (.v 20))], ds := [], heap := (ct39 la ex).heap,
    facts := (ct39 la ex).pre ++ bd (.v 20) (-1) 59 ++ [((.lt (.v 20) (.v 0)), true), ((.lt (.v 1) (.v 6)), false)] }]
def ct40 (la : SV) (ex : List SBlk) : Ct where
  g := 40
  args := [hist, .int .i64 (.v 1)]
  heap := [hdV (.own 1) la, iv0] ++ ex
  pre := bd (.v 0) 0 60 ++ bd (.v 1) 0 400 ++ [rgF (.v 0) (.v 0), ((.lt (.v 1) (.v 6)), false), ((memB (.v 0) (.v 0) (.v 1)), false)]
  alts := [{ res := .bool (.c true), post := [hdV (.own (2 + ex.length)) la, .dead] ++ ex ++ [iv (a3 3 (.v 0) (.v 0) (.v 1)) (f3 3 (.v 0) (.v 0) (.v 1))], facts := adF }]
def prm40 (P : Program) (la : SV) (ex : List SBlk) : Prm := { P, gm := [], okf, mts := [], dfr := [], sl := [], ct := [ct50 la ex, ct51] }
def ct61 (la : SV) (ex : List SBlk) : Ct where
  g := 61
  args := [hist, .int .i64 (.v 1)]
  heap := [hdV (.own 1) la, iv0] ++ ex
  pre := bd (.v 0) 1 61 ++ bd (.v 1) (-1) 400 ++ bd (.v 6) (-1) 1000 ++ [rgF (.v 0) (.v 0)]
  alts := [{ res := .int .i64 (hmE (.v 0) (.v 0) (.v 1) (.v 6)), post := [hdV (.own 1) la, iv0] ++ ex }]
where hmE (A : AE) (n p d : SE) : SE := .ap 7 (.a A (.i n (.i p (.i d .nil))))
def prm61 (P : Program) : Prm := { P, gm := [], okf, mts := [], dfr := [], sl := [(61, 5)], ct := [], hint := [(61, 3, bd (.rd (.v 0) (.add (.mul (.sub (.v 0) (.c 1)) (.c 2)) (.c 1))) 0 1000), (61, 9, bd (.rd (.v 0) (.mul (.v 20) (.c 2))) 0 1000)] }
def pts61 (P : Program) (la : SV) (ex : List SBlk) : List Pt := [
  { r := 5, b := loopB P 61 5, K := loopK P 61 5, n := 111, tmps := [(0, hist), (1, .int .i64 (.v 21)), (5, .int .i64 (.v 20))], ds := [], heap := (ct61 la ex).heap,
    facts := (ct61 la ex).pre ++ bd (.v 20) (-1) 60 ++ [((.lt (.v 20) (.v 0)), true)] ++ bd (.v 21) (-1) 1000 }]
def cutF : Fx := [((.le (.c 0) (f3 4 (.v 0) (.v 0) (.v 1))), true), ((.le (f3 4 (.v 0) (.v 0) (.v 1)) (.v 0)), true), rgF (a3 5 (.v 0) (.v 0) (.v 1)) (f3 4 (.v 0) (.v 0) (.v 1))]
def hdD (q la : SV) : SBlk := hd q la (.v 31) (.v 32) (.v 33) (.v 1) (.v 0) (.v 34) (.v 35) (.v 36) (.v 1) (.v 37) (.v 38) (.v 39)
def ct49 (la : SV) (ex : List SBlk) : Ct where
  g := 49
  args := [hist, .int .i64 (.v 1)]
  heap := [hdV (.own 1) la, iv0] ++ ex
  pre := bd (.v 0) 0 61 ++ bd (.v 1) 0 400 ++ [rgF (.v 0) (.v 0), ((.lt (.v 1) (.v 6)), false)]
  alts := [{ res := .tup [], post := [hdD (.own (2 + ex.length)) la, .dead] ++ ex ++ [iv (a3 5 (.v 0) (.v 0) (.v 1)) (f3 4 (.v 0) (.v 0) (.v 1))], facts := cutF }]
def prm49 (P : Program) : Prm := { P, gm := [], okf, mts := [], dfr := [], sl := [(49, 5)], ct := [ct51] }
def pts49 (P : Program) (la : SV) (ex : List SBlk) : List Pt := [
  { r := 5, b := loopB P 49 5, K := loopK P 49 5, n := 84, tmps := [(0, hist), (1, .int .i64 (.v 1)), (4, .int .i64 (.v 21)), (5, .int .i64 (.v 20))], ds := [], heap := [hdD (.own 1) la, iv0] ++ ex,
    facts := (ct49 la ex).pre ++ bd (.v 20) 0 61 ++ bd (.v 21) (-1) 60 ++ [((.le (.c 1) (.v 0)), true), ((.le (.v 20) (.v 0)), true), ((.lt (.v 21) (.v 20)), true)] }]
def orB (a b : SB) : SB := .not (.and (.not a) (.not b))
def frB (r : Nat) (d c0 c1 ce : SE) : SBlk := .cells [.own r, .int .i64 d, .int .u64 c0, .int .u64 c1, .int .u64 ce] 65
def rw67 (A : AE) (n : SE) : SBlk := .row A [.int .i64, .int .i64] n [] 67
def rvE : AE := .ap 8 (.a (.v 0) (.i (.v 0) .nil))
def trk : SV := .ptr 0 ⟨.c 0, 0, 2⟩
def hdG (la : SV) : SBlk := hd (.own 1) la (.v 31) (.v 32) (.v 33) (.v 6) (.c false) (.v 34) (.v 35) (.v 36) (.v 1) (.v 37) (.v 38) (.v 39)
def newF : Fx := bd (.v 0) 0 61 ++ [(orB (.not (.v 0)) (.le (.c 1) (.v 0)), true)]
def ct33n : Ct where
  g := 33
  args := [trk]
  heap := [hdV (.own 1) laN, iv0, .any, .any]
  pre := newF
  alts := [{ c := .not (.v 0), res := .nilptr, post := [hdV (.own 1) laN, iv0, .any, .any] }, { res := .ptr 5 Off.z, post := [hdG (.ptr 5 Off.z), iv0, .any, .any, rw67 rvE (.v 0), frB 4 (.c 0) (.v 31) (.v 32) (.v 33)] }]
def ct33t : Ct where
  g := 33
  args := [trk]
  heap := [hdV (.own 1) laT, iv0, .any, .any, frB 5 (.v 41) (.v 42) (.v 43) (.v 44), rw67 (.v 2) (.v 40)]
  pre := newF ++ bd (.v 40) 1 61
  alts := [{ c := .not (.v 0), res := .nilptr, post := [hdV (.own 1) laT, iv0, .any, .any, frB 5 (.v 41) (.v 42) (.v 43) (.v 44), rw67 (.v 2) (.v 40)] }, { res := .ptr 4 Off.z, post := [hdG laT, iv0, .any, .any, frB 6 (.c 0) (.v 31) (.v 32) (.v 33), .dead, rw67 rvE (.v 0)] }]
def rdF : SB × Bool := ((.ap 2 (.a (.v 2) (.i (.v 40) .nil))), true)
def frH : List SBlk := [frB 1 (.v 41) (.v 42) (.v 43) (.v 44), rw67 (.v 2) (.v 40)]
def ct59 : Ct where
  g := 59
  args := [.int .i64 (.v 40), .func (.func 60) [] [.ptr 2 Off.z, .ptr 3 Off.z]]
  heap := frH ++ [.cells [.int .i64 (.v 1)] 50, .cells [.ptr 0 Off.z] 60]
  pre := bd (.v 40) 1 61 ++ [rdF]
  alts := [{ res := .int .i64 (f3 9 (.v 2) (.v 40) (.v 1)), post := frH ++ [.cells [.int .i64 (.v 1)] 50, .cells [.ptr 0 Off.z] 60] }]
def prm59 (P : Program) : Prm := { P, gm := [], okf, mts := [], dfr := [], sl := [(59, 2)], ct := [] }
def pts59 (P : Program) : List Pt := [
  { r := 2, b := loopB P 59 2, K := loopK P 59 2, n := 26, tmps := [(1, .func (.func 60) [] [.ptr 2 Off.z, .ptr 3 Off.z]), (5, .int .i64 (.v 20)), (6, .int .i64 (.v 21))], ds := [], heap := ct59.heap,
    facts := ct59.pre ++ bd (.v 20) 0 61 ++ bd (.v 21) 0 61 ++ [((.le (.v 20) (.v 21)), true), ((.le (.v 21) (.v 40)), true)] }]
def ct53 : Ct where
  g := 53
  args := [.ptr 0 Off.z, .int .i64 (.v 1)]
  heap := frH
  pre := bd (.v 40) 1 61 ++ bd (.v 1) 0 400 ++ [rdF]
  alts := [{ res := .bool (b3 7 (.v 2) (.v 40) (.v 1)), post := frH }]
def prm53 (P : Program) : Prm := { P, gm := [], okf, mts := [], dfr := [], sl := [], ct := [ct59], hint := [(53, 4, bd (f3 9 (.v 2) (.v 40) (.v 1)) 0 60 ++ [((.lt (f3 9 (.v 2) (.v 40) (.v 1)) (.v 40)), true)])] }
def inc (k : Int) (x : SE) : SE := .ite (.eq (.v 50) (.c k)) (.add x (.c 1)) x
def rcF : Fx := bd (.v 0) 0 60 ++ bd (.v 1) 0 400 ++ [rgF (.v 0) (.v 0), ((.lt (.v 1) (.v 6)), false), ((memB (.v 0) (.v 0) (.v 1)), false)] ++ bd (.v 6) (-1) 1000 ++ bd (.v 31) 0 1000 ++ bd (.v 32) 0 1000 ++ bd (.v 33) 0 1000 ++ bd (.v 35) 0 1000 ++ bd (.v 37) 0 1000 ++ bd (.v 51) 0 1000000000000000
def ct30 (la : SV) (ex : List SBlk) : Ct where
  g := 30
  args := [trk, .int .i64 (.v 1), .int .u8 (.v 50), .bool (.v 2)]
  heap := [hdV (.own 1) la, iv0] ++ ex
  pre := bd (.v 0) 0 60 ++ bd (.v 1) 0 400 ++ [rgF (.v 0) (.v 0), ((.lt (.v 1) (.v 6)), false), ((memB (.v 0) (.v 0) (.v 1)), false)] ++ bd (.v 31) 0 1000 ++ bd (.v 32) 0 1000 ++ bd (.v 33) 0 1000
  alts := [{ res := .nilif, post := [hd (.own (2 + ex.length)) la (inc 3 (.v 31)) (inc 2 (.v 32)) (inc 4 (.v 33)) (.v 6) (orB (.v 0) (.v 2)) (.v 34) (.v 35) (.v 36) (.v 1) (.v 37) (.v 38) (.v 39), .dead] ++ ex ++ [iv (a3 3 (.v 0) (.v 0) (.v 1)) (f3 3 (.v 0) (.v 0) (.v 1))], facts := adF }]
def prm30 (P : Program) (la : SV) (ex : List SBlk) : Prm := { P, gm := [], okf, mts := [], dfr := [], sl := [], ct := [ct40 la ex] }
end Go.Proofs.Ytgianhjmjiiadaa
