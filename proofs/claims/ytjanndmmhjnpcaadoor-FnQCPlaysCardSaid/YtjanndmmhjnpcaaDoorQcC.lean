/- The contracts of what the package does with a peer's ids, as patterns. -/
import Derived.Test.YtjanndmmhjnpcaaDoorQcS
import Derived.Test.YtjanndmmhjnpcaaDoorSyMk
set_option autoImplicit true
set_option relaxedAutoImplicit true
set_option linter.unusedVariables false
namespace Go.Proofs.YtjanndmmhjnpcaaDoor
open Go Go.Sy
def okf : List Nat := [3, 4, 5, 6, 7, 8, 9, 10, 11, 12, 13, 14, 15, 16, 17, 18, 19, 20, 21, 22, 23, 24, 28, 29, 30, 31, 32, 33, 34, 35, 36, 40, 41, 42, 43, 44, 45, 46, 47, 48, 49]
def zs (n : Nat) : List SV := List.replicate n (.int .u8 (.c 0))
def idC (s l : SE) : List SV := [.int .u8 (.c 0), .int .u8 s] ++ zs 18 ++ [.int .u8 l]
def tkC (s : SE) : List SV := [.int .u8 (.c 0), .int .u8 s] ++ zs 14
def qu : QuP where
  T := 113
  S := 38
  ent s l := [.int .u64 s] ++ idC s l ++ tkC s
  ks := .int .u64 :: List.replicate 37 (.int .u8)
  entP := [.int .u64 (.v 1)] ++ idC (.v 2) (.v 9) ++ tkC (.v 3)
  preP := [((.eq (.v 2) (.v 1)), true), ((.eq (.v 3) (.v 1)), true)]
def qw : QuP where
  T := 29
  S := 1
  ent s l := [.int .u64 s]
  ks := [.int .u64]
  entP := [.int .u64 (.v 1)]
  preP := []
def r6 : RecP where
  ks := [.int .i64, .int .i64, .bool, .opq, .opq, .opq]
  T := 37
  cols := [(3, [.int .u64], 29), (4, [.int .i64], 3), (5, [.int .i64], 3)]
  W := 64
def r1 : RecP where
  ks := [.opq]
  T := 34
  cols := [(0, [.int .u64], 29)]
  W := 64
def pRec (r : RecP) (l : List Arg) (v : Value) (w : World) : Prop := match l with
  | [.i n, .a A, .a B, .a L, .a K, .a C] => RecIs r n.toNat A B L K C v w
  | _ => v = .slice none 0 0
def ftRec (r : RecP) (l : List Arg) (v : Value) (x : Nat) : Prop := match l with
  | [.i n, .a A, .a B, .a L, .a K, .a C] => RecFt r n.toNat B v x
  | _ => v.ownBlock = some x
def pQu (q : QuP) (l : List Arg) (v : Value) (w : World) : Prop := match l with
  | [.i n, .i l, .a A] => QuIs q n.toNat l A v w
  | _ => v = .slice none 0 0
theorem pRec_frame {r : RecP} {l : List Arg} {v : Value} {w w' : World} (h : pRec r l v w) (hs : ∀ x, ftRec r l v x → w'.heap[x]? = w.heap[x]?) : pRec r l v w' := by
  unfold pRec ftRec at *
  split at h
  · exact RecIs.frame h hs
  · exact h
theorem pQu_frame {q : QuP} {l : List Arg} {v : Value} {w w' : World} (h : pQu q l v w) (hs : ∀ x, v.ownBlock = some x → w'.heap[x]? = w.heap[x]?) : pQu q l v w' := by
  unfold pQu at *
  split at h
  · exact QuIs.frame h hs
  · exact h
theorem pRec_nil (r : RecP) (l : List Arg) (w : World) : pRec r (.i 0 :: l) (.slice none 0 0) w := by
  unfold pRec
  split
  · rename_i h; cases h; exact RecIs.nil _ _ _ _ _ _ _
  · rfl
theorem pQu_nil (q : QuP) (l : List Arg) (w : World) : pQu q (.i 0 :: l) (.slice none 0 0) w := by
  unfold pQu
  split
  · rename_i h; cases h; exact .inl ⟨rfl, rfl⟩
  · rfl
theorem ftRec_nil (r : RecP) (l : List Arg) (x : Nat) : ¬ ftRec r (.i 0 :: l) (.slice none 0 0) x := by
  unfold ftRec
  split
  · rename_i h; cases h
    rintro (h | ⟨i, f, h, _⟩)
    · cases h
    · exact Nat.not_lt_zero _ h
  · intro h; cases h
def pMap (l : List Arg) (v : Value) (a : Nat) (w : World) : Prop := match l with
  | [.a A, .a B] => MapV w a .u64 0 A (fun z => .bool (B z != 0))
  | _ => v = .slice none 0 0
theorem pMap_frame {l : List Arg} {v : Value} {a : Nat} {w w' : World} (h : pMap l v a w) (hs : w'.heap[a]? = w.heap[a]?) : pMap l v a w' := by
  unfold pMap at *
  split at h
  · exact h.frame hs
  · exact h
noncomputable def fns : Fns where
  f k l := if 1000 ≤ k then fbase k l else match k, l with
    | 3, [.a A, .i n, .i p] => (keep A n.toNat p).length
    | 4, [.a A, .i n, .i p] => (gone A n.toNat p).length
    | 5, [.a A, .i n, .i s] => putN A n.toNat s
    | 6, [.a A, .i n, .i s] => kx A s n.toNat
    | 10, [.a A, .i n, .i act, .i hi, .i s, .i p] => (adQ (lst A n.toNat) act hi s p).length
    | 11, [.a A, .i n, .i act, .i hi, .i s, .i p] => adA (lst A n.toNat) act hi s p
    | 12, [.i act, .i hi, .i s, .i p] => adH act hi s p
    | 13, [.a A, .i n, .i act, .i hi, .i s, .i p] => (adR (lst A n.toNat) act hi s p).length
    | _, _ => 0
  g k l := if 1000 ≤ k then gbase k l else match k, l with
    | 1, [.a A, .i n] => (open Classical in decide (Srt A n.toNat))
    | 3, [.a A, .i n] => (open Classical in decide (SOk A n.toNat))
    | 16, [.a A, .i n] => (open Classical in decide (∀ j : Nat, (j : Int) < n → 0 ≤ A j ∧ A j ≤ 255))
    | 15, [.a A, .i a, .i n, .a B, .i b, .i m] => (open Classical in decide (n = m ∧ ∀ j : Nat, (j : Int) < n → A (a.toNat + j) = B (b.toNat + j)))
    | 2, [.a A, .i n, .i act, .i hi] => (open Classical in decide (QOk A n.toNat act hi))
    | 10, [.i act, .i hi, .i s, .i p] => adU act hi s p
    | 11, [.i c, .i n, .i act, .i pk, .i per] => shd n.toNat act pk per (decide (c = 1))
    | _, _ => false
  a k l := match k, l with
    | 1, [.a C, .i b, .a a] => fun j => if j < b.toNat then C j else a (j - b.toNat)
    | 2, [.a A, .i n, .i i, .i s] => insA A n.toNat i.toNat s
    | 3, [.a A, .i n, .i p] => arr (keep A n.toNat p)
    | 4, [.a A, .i n, .i p] => arr (gone A n.toNat p)
    | 5, [.a A, .i n, .i s] => putA A n.toNat s
    | 10, [.a A, .i n, .i act, .i hi, .i s, .i p] => arr (adQ (lst A n.toNat) act hi s p)
    | 13, [.a A, .i n, .i act, .i hi, .i s, .i p] => arr (adR (lst A n.toNat) act hi s p)
    | 20, [.a A, .i r] => colA A r
    | 21, [.a A, .i r] => colL A r
    | 22, [.a A, .i r] => colC A r
    | 23, [.a A, .i r] => fun t => codeAt A r t
    | 24, [.a A, .i r] => fun t => (stq A r (t + 1)).act
    | 25, [.a A, .i r] => fun t => ((retAt A r t).length : Int)
    | 26, [.a A, .i r] => fun t => arr (retAt A r (t / 64)) (t % 64)
    | _, _ => fun _ => 0
  fb k l h := if_pos h
  gb k l h := if_pos h
  p k l a v w := if k = 1000 then pRec r6 l v w else if k = 1001 then pRec r1 l v w else if k = 1002 then pQu qu l v w else if k = 1003 then pQu qw l v w else if k = 7 then pMap l v a w else v = .slice none 0 0
  ft k l a v x := if k = 1000 then ftRec r6 l v x else if k = 1001 then ftRec r1 l v x else if k = 7 then x = a else v.ownBlock = some x
  pf := by
    intro k l a v w w' h hs
    by_cases h0 : k = 1000
    · simp only [h0, if_true] at h hs ⊢; exact pRec_frame h hs
    · simp only [h0, if_false] at h hs ⊢
      by_cases h1 : k = 1001
      · simp only [h1, if_true] at h hs ⊢; exact pRec_frame h hs
      · simp only [h1, if_false] at h hs ⊢
        by_cases h2 : k = 1002
        · simp only [h2, if_true] at h ⊢
          exact pQu_frame h fun x hx => hs x (by rw [if_neg (by omega)]; exact hx)
        · simp only [h2, if_false] at h ⊢
          by_cases h3 : k = 1003
          · simp only [h3, if_true] at h ⊢
            exact pQu_frame h fun x hx => hs x (by rw [if_neg (by omega)]; exact hx)
          · simp only [h3, if_false] at h ⊢
            by_cases h7 : k = 7
            · simp only [h7, if_true] at h hs ⊢
              exact pMap_frame h (hs a rfl)
            · simp only [h7, if_false] at h ⊢; exact h
  pn := by
    intro k r a w hk
    by_cases h0 : k = 1000
    · simp only [h0, if_true]; exact pRec_nil _ _ _
    · by_cases h1 : k = 1001
      · simp only [h1, if_true]; exact pRec_nil _ _ _
      · by_cases h2 : k = 1002
        · simp only [h2]; exact pQu_nil _ _ _
        · by_cases h3 : k = 1003
          · simp only [h3]; exact pQu_nil _ _ _
          · simp only [h0, h1, h2, h3, if_false]
            rw [if_neg (by omega)]
            trivial
  fn := by
    intro k r a x hk
    by_cases h0 : k = 1000
    · simp only [h0, if_true]; exact ftRec_nil _ _ _
    · by_cases h1 : k = 1001
      · simp only [h1, if_true]; exact ftRec_nil _ _ _
      · simp only [h0, h1, if_false]
        rw [if_neg (by omega)]
        intro h; cases h
def bd (x : SE) (lo hi : Int) : Fx := [((.le (.c lo) x), true), ((.le x (.c hi)), true)]
def a3 (k : Nat) (A : AE) (n p : SE) : AE := .ap k (.a A (.i n (.i p .nil)))
def a4 (k : Nat) (A : AE) (n i p : SE) : AE := .ap k (.a A (.i n (.i i (.i p .nil))))
def f3 (k : Nat) (A : AE) (n p : SE) : SE := .ap k (.a A (.i n (.i p .nil)))
def srt (A : AE) (n : SE) : SB × Bool := ((.ap 1 (.a A (.i n .nil))), true)
def ct49 : Ct where
  g := 49
  args := [.own 0, .int .i64 (.v 4), .own 1]
  heap := [quV 1002, qu.blk]
  pre := [((.le (.c 0) (.v 4)), true), ((.lt (.v 4) (.v 0)), true), ((.le (.v 0) (.c 100000)), true)] ++ qu.preP
  alts := [{ res := .own 2, post := [.dead, qu.blk, quB 1002 (.add (.v 0) (.c 1)) (.v 9) (a4 2 (.v 0) (.v 0) (.v 4) (.v 1))] }]
def mgr (q : SV) (comp : SB) (act hi : SE) (tok : SV) (rnd pk per : SE) (x : Nat) : SBlk :=
  .cells ([q, .int .u64 (.c 0), .nilmap, .bool comp, .int .u64 act, .int .u64 hi] ++ idC act (.v 9) ++ [tok, .int .u32 rnd, .int .u32 pk, .int .u32 per, .func (.func 14) [] [.ptr x Off.z], .func (.func 16) [] [.ptr x Off.z], .func (.func 17) [] [.ptr x Off.z], .bool (.c false)]) 92
def mgrV (q : SV) (tok : SV) (x : Nat) : SBlk := mgr q (.v 0) (.v 10) (.v 11) tok (.v 12) (.v 13) (.v 14) x
def ct46 (tok : SV) (ex : List SBlk) : Ct where
  g := 46
  args := [.ptr 0 Off.z, .int .u64 (.v 1), .agg (idC (.v 2) (.v 9)), .agg (tkC (.v 3))]
  heap := [mgrV (.own 1) tok 2, quV 1002, .any] ++ ex
  pre := bd (.v 0) 0 1000 ++ bd (.v 1) 0 255 ++ qu.preP ++ [srt (.v 0) (.v 0)]
  alts := [{ res := .nilif, post := [mgrV (.own (3 + ex.length)) tok 2, .dead, .any] ++ ex ++ [quB 1002 (f3 5 (.v 0) (.v 0) (.v 1)) (.v 9) (a3 5 (.v 0) (.v 0) (.v 1))] }]
def tokT : SV := .ptr 3 ⟨.c 0, 0, 22⟩
def ct46n : Ct := ct46 .nilptr []
def ct46t : Ct := ct46 tokT [.any]
def btQ (P : Program) : List Bt := [btQuLen 88 1002, btQuIx 88 1002 qu, btQuLd 113 1002 qu (.agg (qu.ent (.rd (.v 0) (.v 1)) (.v 9))), btQuLd 29 1002 qu (.int .u64 (.rd (.v 0) (.v 1))), btQuApp 88 1002 qu, btQuTail 88 1002, btQuMake 88 1002]
def prm46 (P : Program) : Prm := { P, gm := [], okf, mts := [], dfr := [], sl := [(46, 5)], ct := [ct49], bt := btQ P, hint := [(46, 8, [((.eq (.rd (.v 0) (.v 20)) (.v 2)), true), ((.eq (.rd (.v 0) (.v 20)) (.v 3)), true)])] }
def sl6 : SL := .a (.v 0) (.i (.v 0) (.i (.v 10) (.i (.v 11) (.i (.v 1) (.i (.v 15) .nil)))))
def sl4 : SL := .i (.v 10) (.i (.v 11) (.i (.v 1) (.i (.v 15) .nil)))
def frC : List SV := [.int .u64 (.v 1), .int .u64 (.v 15)] ++ idC (.v 2) (.v 9) ++ tkC (.v 3)
def enC (s : SE) : List SV := [.int .u64 s] ++ idC s (.v 9) ++ tkC s
def oC (r a o : SV) : List SV := [.int .i64 (.v 16), .int .i64 (.v 17), .bool (.v 1), r, a, o]
def rw64 (a : AE) (n : SE) : SBlk := .row a [.int .u64] n [] 29
def rwI (x : SE) : SBlk := .row (.tl AE.z (.c 0) (.i x .nil)) [.int .i64] (.c 1) [] 3
def rwU (x : SE) : SBlk := .row (.tl AE.z (.c 0) (.i x .nil)) [.int .u64] (.c 1) [] 29
def mgrW (q : SV) (act hi : SE) (tok : SV) (pk per : SE) : SBlk := mgr q (.v 0) act hi tok (.v 12) pk per 2
def perE : SE := .add (.c 5000) (.tmod (.v 12) (.c 10000))
def ct41 (tok : SV) (ex : List SBlk) : Ct where
  g := 41
  args := [.ptr 0 Off.z, .ptr (3 + ex.length) Off.z]
  heap := [mgrV (.own 1) tok 2, quV 1002, .cells (oC .nilslice .nilslice .nilslice) 37] ++ ex ++ [.cells frC 71]
  pre := bd (.v 0) 0 50 ++ bd (.v 1) 0 255 ++ bd (.v 15) 0 255 ++ bd (.v 10) 0 255 ++ bd (.v 11) 0 255 ++ bd (.v 12) 0 4294967295 ++ bd (.v 9) 4 18 ++ [((.le (.v 15) (.v 1)), true)] ++ qu.preP ++ [((.ap 2 (.a (.v 0) (.i (.v 0) (.i (.v 10) (.i (.v 11) .nil))))), true)]
  alts := [{ c := .not (.ap 10 sl4), res := .nilif, post := [mgrW (.own n) (.v 10) (.ap 12 sl4) tok (.v 13) (.v 14), .dead, .cells (oC (.own (n + 1)) .nilslice .nilslice) 37] ++ ex ++ [.dead, quB 1002 (.ap 10 sl6) (.v 9) (.ap 10 sl6), rw64 (.ap 13 sl6) (.ap 13 sl6)] },
    { res := .nilif, post := [mgrW (.own n) (.ap 11 sl6) (.ap 12 sl4) (.ptr (n + 2) ⟨.c 0, 0, 22⟩) (.c 0) perE, .dead, .cells (oC (.own (n + 1)) (.own (n + 3)) (if ex.isEmpty then .nilslice else .own (n + 4))) 37] ++ ex.map (fun _ => .dead) ++ [.dead, quB 1002 (.ap 10 sl6) (.v 9) (.ap 10 sl6), rw64 (.ap 13 sl6) (.ap 13 sl6), .cells (enC (.ap 11 sl6)) 113, rwI (.ap 11 sl6)] ++ (if ex.isEmpty then [] else [rwI (.v 10)]) }]
where n : Nat := 4 + ex.length
def ct41n : Ct := ct41 .nilptr []
def ct41t : Ct := ct41 tokT [.cells (enC (.v 10)) 113]
def prm41 (P : Program) : Prm := { P, gm := [], okf, mts := [], dfr := [], sl := [(41, 17)], ct := [ct46n, ct46t], bt := btQ P, hint := [(41, 31, [((.lt (.v 11) (.v 15)), true)])] }
def ct13 (l : SE) : Ct where
  g := 13
  args := [.int .u16 (.v 1), .int .i64 l]
  heap := []
  pre := bd (.v 1) 0 255
  alts := [{ res := .agg (idC (.v 1) l), post := [] }]
def ct20 : Ct where
  g := 20
  args := [.int .u16 (.v 1)]
  heap := []
  pre := bd (.v 1) 0 255
  alts := [{ res := .agg (tkC (.v 1)), post := [] }]
def prm13 (P : Program) (l : Nat) : Prm := { P, gm := [], okf, mts := [], dfr := [], sl := [], ct := [], bt := [btMkC 23 5 l (.int .u8 (.c 0))] }
def mgrP (tok : SV) (pk : SE) : SBlk := mgr (.own 3) (.v 0) (.v 10) (.v 11) tok (.v 12) pk (.v 14) 2
def ct24 (tok : SV) (ex : List SBlk) : Ct where
  g := 24
  args := [.ptr 0 Off.z, .int .i64 (.v 18)]
  heap := [.cells [.ptr 1 Off.z] 94, mgrP tok (.v 13), .any, quV 1002] ++ ex
  pre := bd (.v 18) 0 100000 ++ bd (.v 13) 0 1000000000
  alts := [{ res := .tup [], post := [.cells [.ptr 1 Off.z] 94, mgrP tok (.add (.v 13) (.v 18)), .any, quV 1002] ++ ex }]
def ct24n : Ct := ct24 .nilptr []
def tokP : SV := .ptr 4 ⟨.c 0, 0, 22⟩
def ct24t : Ct := ct24 tokP [.any]
def prm24 (P : Program) : Prm := { P, gm := [], okf, mts := [], dfr := [], sl := [(24, 1)], ct := [] }
def pts24 (P : Program) (tok : SV) (ex : List SBlk) : List Pt := [
  { r := 1, b := loopB P 24 1, K := loopK P 24 1, n := 13, tmps := [(0, .ptr 0 Off.z), (4, .int .i64 (.v 18)), (5, .int .i64 (.v 131))], ds := [], heap := [.cells [.ptr 1 Off.z] 94, mgrP tok (.v 130), .any, quV 1002] ++ ex,
    facts := bd (.v 18) 0 100000 ++ bd (.v 131) 0 100000 ++ bd (.v 130) 0 1000200000 ++ [((.le (.v 131) (.v 18)), true)] }]
def sl5 : SL := .b (.v 0) (.i (.v 0) (.i (.v 10) (.i (.v 13) (.i (.v 14) .nil))))
def ct35 (tok : SV) (ex : List SBlk) : Ct where
  g := 35
  args := [.ptr 0 Off.z]
  heap := [mgrV (.own 1) tok 2, quV 1002, .cells (oC .nilslice .nilslice .nilslice) 37] ++ ex
  pre := bd (.v 0) 0 50 ++ bd (.v 10) 0 255 ++ bd (.v 11) 0 255 ++ bd (.v 12) 0 4294967295 ++ bd (.v 9) 4 18 ++ bd (.v 13) 0 1000000000 ++ bd (.v 14) 0 1000000000 ++ [((.ap 2 (.a (.v 0) (.i (.v 0) (.i (.v 10) (.i (.v 11) .nil))))), true)]
  alts := [{ c := .not (.ap 11 sl5), res := .agg (idC (.v 10) (.v 9)), post := [mgrV (.own 1) tok 2, quV 1002, .cells (oC .nilslice .nilslice .nilslice) 37] ++ ex },
    { res := .agg (idC (.rd (.v 0) (.c 0)) (.v 9)), post := [mgrW (.own n) (.rd (.v 0) (.c 0)) (.v 10) (.ptr (n + 2) ⟨.c 0, 0, 22⟩) (.c 0) perE, .dead, .cells (oC (.own (n + 1)) (.own (n + 3)) (if ex.isEmpty then .nilslice else .own (n + 4))) 37] ++ ex.map (fun _ => .dead) ++ [quB 1002 (.sub (.v 0) (.c 1)) (.v 9) (.dr (.v 0) (.c 1)), rwU (.v 10), .cells (enC (.rd (.v 0) (.c 0))) 113, rwI (.rd (.v 0) (.c 0))] ++ (if ex.isEmpty then [] else [rwI (.v 10)]) }]
where n : Nat := 3 + ex.length
def ct35n : Ct := ct35 .nilptr []
def ct35t : Ct := ct35 tokT [.cells (enC (.v 10)) 113]
def prm35 (P : Program) : Prm := { P, gm := [], okf, mts := [], dfr := [], sl := [], ct := [], bt := btQ P }
def sk5 : List SK := [.int .i64, .int .u64, .int .u64, .int .u16, .int .u16]
def scr : SBlk := .row (.v 5) sk5 (.v 40) [] 33
def slS : SL := .a (.v 5) (.i (.v 12) .nil)
def ct6 : Ct where
  g := 6
  args := [.int .i64 (.v 9), .int .u32 (.v 12), .own 0]
  heap := [scr]
  pre := bd (.v 9) 4 18 ++ bd (.v 12) 0 4294967295 ++ bd (.v 40) 0 50 ++ [((.ap 3 (.a (.v 5) (.i (.v 40) .nil))), true)]
  alts := [{ res := .tup [.own 1, .bool (.c true)], post := [scr, recB 1000 (.v 40) (.ap 20 slS) (.v 500) (.ap 21 slS) (.v 501) (.ap 22 slS)] }]
  nx := 2
def hs (i : SE) : Fx :=
  let r (c : Int) : SE := .rd (.v 5) (if c = 0 then .mul i (.c 5) else .add (.mul i (.c 5)) (.c c))
  bd (r 0) 0 3 ++ bd (r 1) 0 18446744073709551615 ++ bd (r 2) 0 18446744073709551615 ++ bd (r 3) 0 65535 ++ bd (r 4) 0 65535
def hs0 (i : SE) : Fx :=
  let r (c : Int) : SE := .rd (.v 5) (if c = 0 then .mul i (.c 5) else .add (.mul i (.c 5)) (.c c))
  bd (r 1) 0 255 ++ bd (r 2) 0 255 ++ [((.le (r 2) (r 1)), true), ((.eq (r 3) (r 1)), true), ((.eq (r 4) (r 1)), true)] ++ bd (r 3) 0 255 ++ bd (r 4) 0 255
def ct13v : Ct := { ct13 (.v 9) with pre := bd (.v 1) 0 255 ++ bd (.v 9) 4 18 }
def prm6 (P : Program) : Prm := { P, gm := [], okf, mts := [], dfr := [11], sl := [(6, 5)], ct := [ct41n, ct41t, ct35n, ct35t, ct24n, ct24t, ct13v, ct20], bt := btQ P ++ [btRecApp 26 1000 1 r6], hint := [(6, 8, bd (.rd (.v 5) (.mul (.v 130) (.c 5))) 0 3), (6, 10, hs0 (.v 130)), (6, 16, bd (.rd (.v 5) (.add (.mul (.v 130) (.c 5)) (.c 1))) 0 18446744073709551615)], recs := true }
def mgr6 (tok : SV) : SBlk := mgr (.own 5) (.v 100) (.v 110) (.v 111) tok (.v 12) (.v 113) (.v 114) 2
def pt6 (P : Program) (tok : SV) (ex : List SBlk) : Pt :=
  { r := 5, b := loopB P 6 5, K := loopK P 6 5, n := 103, tmps := [(0, .int .i64 (.v 9)), (6, .own 6), (7, .ptr 1 Off.z), (8, .ptr 2 Off.z), (9, .ptr 3 Off.z), (21, .own 0), (22, .int .i64 (.v 40)), (23, .int .i64 (.v 130))], ds := [{ fn := 11, args := [.ptr 1 Off.z], cap := [] }],
    heap := [scr, .cells [.bool (.c false)] 4, .cells [.opq 200, .opq 201, .opq 202, .opq 203, .opq 204, .opq 205] 37, .cells [.ptr 4 Off.z] 94, mgr6 tok, quB 1002 (.v 100) (.v 9) (.v 100), recB 1000 (.v 130) (.v 120) (.v 121) (.v 122) (.v 123) (.v 124)] ++ ex,
    facts := ct6.pre ++ bd (.v 130) 0 50 ++ bd (.v 100) 0 50 ++ bd (.v 110) 0 255 ++ bd (.v 111) 0 255 ++ bd (.v 113) 0 1000000000 ++ bd (.v 114) 0 1000000000 ++ [((.ap 2 (.a (.v 100) (.i (.v 100) (.i (.v 110) (.i (.v 111) .nil))))), true)] }
def pts6 (P : Program) : List Pt := [pt6 P .nilptr [], pt6 P (.ptr 7 ⟨.c 0, 0, 22⟩) [.cells (enC (.v 110)) 113]]
def pts41 (P : Program) (tok : SV) (ex : List SBlk) : List Pt := [
  { r := 17, b := loopB P 41 17, K := loopK P 41 17, n := 196, tmps := [(0, .ptr 0 Off.z), (1, .ptr (3 + ex.length) Off.z), (7, .own (5 + ex.length)), (120, .own 1), (121, .int .i64 (.v 0)), (122, .int .i64 (.v 133))], ds := [],
    heap := [mgrV (.own 1) tok 2, quV 1002, .cells (oC (.own (4 + ex.length)) .nilslice .nilslice) 37] ++ ex ++ [.cells frC 71, rw64 (.v 121) (.v 132), quB 1002 (.v 130) (.v 9) (.v 120)],
    facts := (ct41 tok ex).pre ++ bd (.v 133) 0 50 ++ bd (.v 130) 0 50 ++ bd (.v 132) 0 50 ++ [((.lt (.v 11) (.v 15)), true), ((.lt (.v 1) (.v 10)), false), ((.lt (.v 1) (.v 11)), false), srt (.v 120) (.v 130)] }]
def pts46 (P : Program) (tok : SV) (ex : List SBlk) : List Pt := [
  { r := 5, b := loopB P 46 5, K := loopK P 46 5, n := 90, tmps := [(0, .ptr 0 Off.z), (1, .int .u64 (.v 1)), (6, .ptr (3 + ex.length) Off.z), (7, .ptr (4 + ex.length) Off.z), (50, .own 1), (51, .int .i64 (.v 0)), (52, .int .i64 (.v 20))], ds := [],
    heap := [mgrV (.own 1) tok 2, quV 1002, .any] ++ ex ++ [.cells (idC (.v 2) (.v 9)) 52, .cells (tkC (.v 3)) 55],
    facts := (ct46 tok ex).pre ++ [((.le (.c 0) (.v 20)), true), ((.le (.v 20) (f3 6 (.v 0) (.v 0) (.v 1))), true), ((.le (.v 20) (.c 1000)), true), ((.lt (.rd (.v 0) (.sub (.v 0) (.c 1))) (.v 1)), false)] }]
end Go.Proofs.YtjanndmmhjnpcaaDoor
