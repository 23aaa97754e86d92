/- The contracts of the methods of flow control, as patterns. -/
import Derived.Test.YtpjifimjoinnnaaDoorFcM
import Derived.Test.YtpjifimjoinnnaaDoorSyQ
set_option autoImplicit true
set_option relaxedAutoImplicit true
set_option linter.unusedVariables false
namespace Go.Proofs.YtpjifimjoinnnaaDoor
open Go Go.Sy
def okf : List Nat := [3, 4, 5, 6, 7, 8, 9, 10, 11, 12, 13, 14, 15, 16, 17, 18, 19, 20, 21, 22, 23, 24, 25, 26, 27, 28, 29, 30, 31, 32, 33, 34, 35, 36, 37, 38, 39, 40, 41, 42, 43, 44, 45, 46, 47, 48, 49, 50, 51, 52, 53, 54, 55, 56, 57, 58, 59, 60, 61, 63, 64, 65]
def str1 : List UInt8 := [114, 101, 99, 101, 105, 118, 101, 100, 32, 105, 110, 99, 111, 110, 115, 105, 115, 116, 101, 110, 116, 32, 102, 105, 110, 97, 108, 32, 111, 102, 102, 115, 101, 116, 32, 102, 111, 114, 32, 115, 116, 114, 101, 97, 109, 32, 37, 100, 32, 40, 111, 108, 100, 58, 32, 37, 100, 44, 32, 110, 101, 119, 58, 32, 37, 100, 32, 98, 121, 116, 101, 115, 41]
def str2 : List UInt8 := [114, 101, 99, 101, 105, 118, 101, 100, 32, 111, 102, 102, 115, 101, 116, 32, 37, 100, 32, 102, 111, 114, 32, 115, 116, 114, 101, 97, 109, 32, 37, 100, 44, 32, 98, 117, 116, 32, 102, 105, 110, 97, 108, 32, 111, 102, 102, 115, 101, 116, 32, 119, 97, 115, 32, 97, 108, 114, 101, 97, 100, 121, 32, 114, 101, 99, 101, 105, 118, 101, 100, 32, 97, 116, 32, 37, 100]
def str3 : List UInt8 := [114, 101, 99, 101, 105, 118, 101, 100, 32, 102, 105, 110, 97, 108, 32, 111, 102, 102, 115, 101, 116, 32, 37, 100, 32, 102, 111, 114, 32, 115, 116, 114, 101, 97, 109, 32, 37, 100, 44, 32, 98, 117, 116, 32, 97, 108, 114, 101, 97, 100, 121, 32, 114, 101, 99, 101, 105, 118, 101, 100, 32, 111, 102, 102, 115, 101, 116, 32, 37, 100, 32, 98, 101, 102, 111, 114, 101]
def str4 : List UInt8 := [114, 101, 99, 101, 105, 118, 101, 100, 32, 37, 100, 32, 98, 121, 116, 101, 115, 32, 111, 110, 32, 115, 116, 114, 101, 97, 109, 32, 37, 100, 44, 32, 97, 108, 108, 111, 119, 101, 100, 32, 37, 100, 32, 98, 121, 116, 101, 115]
def str5 : List UInt8 := [114, 101, 99, 101, 105, 118, 101, 100, 32, 37, 100, 32, 98, 121, 116, 101, 115, 32, 102, 111, 114, 32, 116, 104, 101, 32, 99, 111, 110, 110, 101, 99, 116, 105, 111, 110, 44, 32, 97, 108, 108, 111, 119, 101, 100, 32, 37, 100, 32, 98, 121, 116, 101, 115]
def rng255 (A : Nat → Int) (n : Nat) : Prop := ∀ j, j < n → 0 ≤ A j ∧ A j ≤ 255
noncomputable def fns : Fns where
  f k l := if 1000 ≤ k then fbase k l else match k, l with
    | 1, [.i at_, .i rtt, .i r, .i w, .i z, .i m, .i t, .i f] => upZ at_ rtt r w z m t f
    | 2, [.i at_, .i r, .i w, .i z, .i t, .i f] => upT at_ r w z t f
    | 3, [.i r, .i w, .i z, .i f] => upF r w z f
    | 4, [.i at_, .i rtt, .i r, .i w, .i z, .i m, .i t, .i f] => upW at_ rtt r w z m t f
    | 5, [.i at_, .i rtt, .i r, .i w, .i z, .i m, .i t, .i f] => upO at_ rtt r w z m t f
    | 6, [.i z', .i z, .i cz, .i cm] => enZ z' z cz cm
    | 7, [.i z', .i z, .i cz, .i ct, .i at_] => enT z' z cz ct at_
    | 8, [.i z', .i z, .i cz, .i cf, .i cr] => enF z' z cz cf cr
    | 9, [.i d, .i h, .i t, .i at_] => coT d h t at_
    | 10, [.i d, .i h, .i f, .i r] => coF d h f r
    | 20, [.i j, .a c, .i rtt, .i smp, .a a, .i k, .i S, .i n, .i off, .i at_, .i fin] => (stp 0 ⟨toP c 0, toP a, rtt, smp⟩ ⟨k, S, n, off, at_, fin⟩).c.get j.toNat
    | 21, [.i j, .a c, .i rtt, .i smp, .a a, .i k, .i S, .i n, .i off, .i at_, .i fin] => seenF 0 ⟨toP c 0, toP a, rtt, smp⟩ ⟨k, S, n, off, at_, fin⟩ j.toNat
    | _, _ => 0
  g k l := if 1000 ≤ k then gbase k l else match k, l with
    | 0, [.i c0, .i c1, .i c2, .a B, .i n, .a X, .i len] => (open Classical in decide (scrOk n.toNat (st0 c0 c1 c2 B) X len.toNat))
    | 1, [.a A, .i n] => (open Classical in decide (rng255 A n.toNat))
    | 2, [.a A, .i n] => (open Classical in decide (goodA A n.toNat))
    | 3, [.a c, .i rtt, .i smp, .a a, .i k, .i S, .i n, .i off, .i at_, .i fin, .i m] => (open Classical in decide (ok7 m.toNat ⟨toP c 0, toP a, rtt, smp⟩ ⟨k, S, n, off, at_, fin⟩))
    | _, _ => false
  a k l := match k, l with
    | 0, [.i c0, .i c1, .i c2, .a B, .a X] => outF 1 (st0 c0 c1 c2 B) X
    | 1, [.a c, .i rtt, .i smp, .a a, .i k, .i S, .i n, .i off, .i at_, .i fin] => fun o => ((stp 0 ⟨toP c 0, toP a, rtt, smp⟩ ⟨k, S, n, off, at_, fin⟩).p (o / 12)).get (o % 12)
    | 2, [.a B] => fun o => ((st0 0 0 0 B).p (o / 12)).get (o % 12)
    | _, _ => fun _ => 0
  fb k l h := if_pos h
  gb k l h := if_pos h
def bd (x : SE) (lo hi : Int) : Fx := [((.le (.c lo) x), true), ((.le x (.c hi)), true)]
def sl : List SE → SL
  | [] => .nil
  | x :: r => .i x (sl r)
def fx (k : Nat) (l : List SE) : SE := .ap k (sl l)
def orB (a b : SB) : SB := .not (.and (.not a) (.not b))
def rttB : SBlk := .cells [.bool (.v 1), .int .i64 (.v 41), .int .i64 (.v 42), .int .i64 (.v 40), .int .i64 (.v 43), .int .i64 (.v 44)] 99
def conB (r h w z m t f s l b : SE) (pr pf : Nat := 0) : SBlk := .cells [.int .i64 r, .int .i64 h, .int .i64 w, .int .i64 z, .int .i64 m, .func (.func 45) [] [.ptr (pr + 1) Off.z], .int .i64 t, .int .i64 f, .ptr pr Off.z, .int .i64 s, .int .i64 l, .int .i64 b] 92
def strB (r h w z m t f s l b id : SE) (fin : SB) (pr : Nat := 0) (pc : Nat := 2) : SBlk := .cells [.int .i64 r, .int .i64 h, .int .i64 w, .int .i64 z, .int .i64 m, .nilfunc, .int .i64 t, .int .i64 f, .ptr pr Off.z, .int .i64 s, .int .i64 l, .int .i64 b, .int .i64 id, .ptr pc Off.z, .bool fin] 90
def errB (code : SE) (s : List UInt8) : SBlk := .cells [.bool (.c false), .int .u64 (.c 0), .int .u64 code, .str s] 107
def funB : SBlk := .cells [.nilfunc] 100
def con0 : SBlk := conB (.v 3) (.v 2) (.v 4) (.v 5) (.v 6) (.v 7) (.v 8) (.v 9) (.v 10) (.v 11)
def str0 : SBlk := strB (.v 22) (.v 21) (.v 23) (.v 24) (.v 25) (.v 26) (.v 27) (.v 28) (.v 29) (.v 30) (.v 31) (.v 2)
def conF : Fx := bd (.v 2) 0 1000000 ++ bd (.v 3) 0 1000000 ++ bd (.v 4) 0 1000000 ++ bd (.v 5) 2 1000000 ++ bd (.v 6) 2 1000000 ++ bd (.v 7) 0 1000000000000000000 ++ bd (.v 8) 0 1000000 ++ bd (.v 9) 0 1000000 ++ bd (.v 10) 0 1000000 ++ bd (.v 11) 0 1000000
def rttF : Fx := bd (.v 40) 1000000 260000000
def duB (w r z : SE) : SB := .le (.sub w r) (.tdiv (.mul z (.c 3)) (.c 4))
def ct25 : Ct where
  g := 25
  args := [.ptr 3 Off.z, .int .i64 (.v 50), .bool (.v 5), .int .i64 (.v 51)]
  heap := [.any, .any, con0, str0]
  pre := bd (.v 2) 0 1000000 ++ bd (.v 21) 0 1000000 ++ bd (.v 50) 0 1000000
  alts := [
    { c := .and (.v 2) (.and (.v 5) (.not (.eq (.v 50) (.v 21)))), res := .ifc 103 (.ptr 4 Off.z), post := [.any, .any, con0, str0, errB (.c 6) str1] },
    { c := .and (.v 2) (.lt (.v 21) (.v 50)), res := .ifc 103 (.ptr 4 Off.z), post := [.any, .any, con0, str0, errB (.c 6) str2] },
    { c := .and (.v 5) (.lt (.v 50) (.v 21)), res := .ifc 103 (.ptr 4 Off.z), post := [.any, .any, con0, strB (.v 22) (.v 21) (.v 23) (.v 24) (.v 25) (.v 26) (.v 27) (.v 28) (.v 29) (.v 30) (.v 31) (.c true), errB (.c 6) str3] },
    { c := .and (.lt (.v 21) (.v 50)) (.lt (.v 23) (.v 50)), res := .ifc 103 (.ptr 4 Off.z), post := [.any, .any, con0, strB (.v 22) (.mx (.v 21) (.v 50)) (.v 23) (.v 24) (.v 25) (fx 9 [(.sub (.v 50) (.v 21)), .v 21, .v 26, .v 51]) (fx 10 [(.sub (.v 50) (.v 21)), .v 21, .v 27, .v 22]) (.v 28) (.v 29) (.v 30) (.v 31) (orB (.v 2) (.v 5)), errB (.c 3) str4] },
    { c := .and (.lt (.v 21) (.v 50)) (.lt (.v 4) (.add (.v 2) (.sub (.v 50) (.v 21)))), res := .ifc 103 (.ptr 4 Off.z), post := [.any, .any, conB (.v 3) (.add (.v 2) (.mx (.c 0) (.sub (.v 50) (.v 21)))) (.v 4) (.v 5) (.v 6) (fx 9 [(.sub (.v 50) (.v 21)), .v 2, .v 7, .v 51]) (fx 10 [(.sub (.v 50) (.v 21)), .v 2, .v 8, .v 3]) (.v 9) (.v 10) (.v 11), strB (.v 22) (.mx (.v 21) (.v 50)) (.v 23) (.v 24) (.v 25) (fx 9 [(.sub (.v 50) (.v 21)), .v 21, .v 26, .v 51]) (fx 10 [(.sub (.v 50) (.v 21)), .v 21, .v 27, .v 22]) (.v 28) (.v 29) (.v 30) (.v 31) (orB (.v 2) (.v 5)), errB (.c 3) str5] },
    { res := .nilif, post := [.any, .any, conB (.v 3) (.add (.v 2) (.mx (.c 0) (.sub (.v 50) (.v 21)))) (.v 4) (.v 5) (.v 6) (fx 9 [(.sub (.v 50) (.v 21)), .v 2, .v 7, .v 51]) (fx 10 [(.sub (.v 50) (.v 21)), .v 2, .v 8, .v 3]) (.v 9) (.v 10) (.v 11), strB (.v 22) (.mx (.v 21) (.v 50)) (.v 23) (.v 24) (.v 25) (fx 9 [(.sub (.v 50) (.v 21)), .v 21, .v 26, .v 51]) (fx 10 [(.sub (.v 50) (.v 21)), .v 21, .v 27, .v 22]) (.v 28) (.v 29) (.v 30) (.v 31) (orB (.v 2) (.v 5))] }]
def ct26 : Ct where
  g := 26
  args := [.ptr 3 Off.z, .int .i64 (.v 50)]
  heap := [.any, .any, con0, str0]
  pre := bd (.v 3) 0 1000000 ++ bd (.v 22) 0 1000000 ++ bd (.v 50) 0 1000000 ++ bd (.v 4) 0 1000000 ++ bd (.v 23) 0 1000000 ++ bd (.v 5) 2 1000000 ++ bd (.v 24) 2 1000000
  alts := [{ res := .tup [.bool (.and (.not (.v 2)) (duB (.v 23) (.add (.v 22) (.v 50)) (.v 24))), .bool (duB (.v 4) (.add (.v 3) (.v 50)) (.v 5))], post := [.any, .any, conB (.add (.v 3) (.v 50)) (.v 2) (.v 4) (.v 5) (.v 6) (.v 7) (.v 8) (.v 9) (.v 10) (.v 11), strB (.add (.v 22) (.v 50)) (.v 21) (.v 23) (.v 24) (.v 25) (.v 26) (.v 27) (.v 28) (.v 29) (.v 30) (.v 31) (.v 2)] }]
def ct27 : Ct where
  g := 27
  args := [.ptr 3 Off.z]
  heap := [.any, .any, con0, str0]
  pre := bd (.v 3) 0 1000000 ++ bd (.v 4) 0 1000000 ++ bd (.v 5) 2 1000000 ++ bd (.v 21) 0 1000000 ++ bd (.v 22) 0 1000000 ++ [((.le (.v 22) (.v 21)), true)]
  alts := [{ res := .tup [], post := [.any, .any, conB (.add (.v 3) (.sub (.v 21) (.v 22))) (.v 2) (.v 4) (.v 5) (.v 6) (.v 7) (.v 8) (.v 9) (.v 10) (.v 11), strB (.v 21) (.v 21) (.v 23) (.v 24) (.v 25) (.v 26) (.v 27) (.v 28) (.v 29) (.v 30) (.v 31) (.v 2)] }]
def zN : SE := fx 1 [.v 51, .v 40, .v 22, .v 23, .v 24, .v 25, .v 26, .v 27]
def ct28 : Ct where
  g := 28
  args := [.ptr 3 Off.z, .int .i64 (.v 51)]
  heap := [rttB, funB, con0, str0]
  pre := bd (.v 22) 0 1000000 ++ bd (.v 23) 0 1000000 ++ bd (.v 24) 2 1000000 ++ bd (.v 25) 2 1000000 ++ bd (.v 26) 0 1000000000000000000 ++ bd (.v 27) 0 1000000 ++ bd (.v 51) 0 1000000000000000000 ++ bd (.v 5) 2 1000000 ++ bd (.v 6) 2 1000000 ++ rttF
  alts := [{ c := .v 2, res := .int .i64 (.c 0), post := [rttB, funB, con0, str0] },
    { res := .int .i64 (fx 5 [.v 51, .v 40, .v 22, .v 23, .v 24, .v 25, .v 26, .v 27]), post := [rttB, funB, conB (.v 3) (.v 2) (.v 4) (fx 6 [zN, .v 24, .v 5, .v 6]) (.v 6) (fx 7 [zN, .v 24, .v 5, .v 7, .v 51]) (fx 8 [zN, .v 24, .v 5, .v 8, .v 3]) (.v 9) (.v 10) (.v 11), strB (.v 22) (.v 21) (fx 4 [.v 51, .v 40, .v 22, .v 23, .v 24, .v 25, .v 26, .v 27]) zN (.v 25) (fx 2 [.v 51, .v 22, .v 23, .v 24, .v 26, .v 27]) (fx 3 [.v 22, .v 23, .v 24, .v 27]) (.v 28) (.v 29) (.v 30) (.v 31) (.v 2)] }]
def ct29 : Ct where
  g := 29
  args := [.ptr 2 Off.z, .int .i64 (.v 51)]
  heap := [rttB, funB, con0]
  pre := bd (.v 3) 0 1000000 ++ bd (.v 4) 0 1000000 ++ bd (.v 5) 2 1000000 ++ bd (.v 6) 2 1000000 ++ bd (.v 7) 0 1000000000000000000 ++ bd (.v 8) 0 1000000 ++ bd (.v 51) 0 1000000000000000000 ++ rttF
  alts := [{ res := .int .i64 (fx 5 [.v 51, .v 40, .v 3, .v 4, .v 5, .v 6, .v 7, .v 8]), post := [rttB, funB, conB (.v 3) (.v 2) (fx 4 [.v 51, .v 40, .v 3, .v 4, .v 5, .v 6, .v 7, .v 8]) (fx 1 [.v 51, .v 40, .v 3, .v 4, .v 5, .v 6, .v 7, .v 8]) (.v 6) (fx 2 [.v 51, .v 3, .v 4, .v 5, .v 7, .v 8]) (fx 3 [.v 3, .v 4, .v 5, .v 8]) (.v 9) (.v 10) (.v 11)] }]
def ct30 : Ct where
  g := 30
  args := [.ptr 3 Off.z, .int .i64 (.v 50)]
  heap := [.any, .dead, .any, str0]
  pre := []
  alts := [{ res := .bool (.lt (.v 29) (.v 50)), post := [.any, .dead, .any, strB (.v 22) (.v 21) (.v 23) (.v 24) (.v 25) (.v 26) (.v 27) (.v 28) (.mx (.v 29) (.v 50)) (.v 30) (.v 31) (.v 2)] }]
def ct22 : Ct where
  g := 22
  args := [.ptr 2 Off.z, .int .i64 (.v 50)]
  heap := [.any, .any, con0]
  pre := []
  alts := [{ res := .bool (.lt (.v 10) (.v 50)), post := [.any, .any, conB (.v 3) (.v 2) (.v 4) (.v 5) (.v 6) (.v 7) (.v 8) (.v 9) (.mx (.v 10) (.v 50)) (.v 11)] }]
def ct31 : Ct where
  g := 31
  args := [.ptr 3 Off.z, .int .i64 (.v 50)]
  heap := [.any, .any, con0, str0]
  pre := bd (.v 28) 0 1000000 ++ bd (.v 29) 0 1000000 ++ bd (.v 9) 0 1000000 ++ bd (.v 10) 0 1000000 ++ bd (.v 50) 0 1000000 ++ [((.le (.add (.v 28) (.v 50)) (.v 29)), true), ((.le (.add (.v 9) (.v 50)) (.v 10)), true)]
  alts := [{ res := .bool (.c true), post := [.any, .any, conB (.v 3) (.v 2) (.v 4) (.v 5) (.v 6) (.v 7) (.v 8) (.add (.v 9) (.v 50)) (.v 10) (.v 11), strB (.v 22) (.v 21) (.v 23) (.v 24) (.v 25) (.v 26) (.v 27) (.add (.v 28) (.v 50)) (.v 29) (.v 30) (.v 31) (.v 2)] }]
def ct33 : Ct where
  g := 33
  args := [.ptr 3 Off.z]
  heap := [.any, .dead, .any, str0]
  pre := []
  alts := [{ res := .bool (.and (.not (.lt (.v 28) (.v 29))) (.not (.eq (.v 29) (.v 30)))), post := [.any, .dead, .any, strB (.v 22) (.v 21) (.v 23) (.v 24) (.v 25) (.v 26) (.v 27) (.v 28) (.v 29) (.ite (.lt (.v 28) (.v 29)) (.v 30) (.v 29)) (.v 31) (.v 2)] }]
def ct34 : Ct where
  g := 34
  args := [.ptr 2 Off.z]
  heap := [.any, .any, con0]
  pre := []
  alts := [{ res := .tup [.bool (.and (.not (.lt (.v 9) (.v 10))) (.not (.eq (.v 10) (.v 11)))), .int .i64 (.ite (.and (.not (.lt (.v 9) (.v 10))) (.not (.eq (.v 10) (.v 11)))) (.v 10) (.c 0))], post := [.any, .any, conB (.v 3) (.v 2) (.v 4) (.v 5) (.v 6) (.v 7) (.v 8) (.v 9) (.v 10) (.ite (.lt (.v 9) (.v 10)) (.v 11) (.v 10))] }]
def prmM (P : Program) : Prm := { P, gm := [], okf, mts := [], dfr := [], sl := [], ct := [] }
end Go.Proofs.YtpjifimjoinnnaaDoor
