/- Whether a probe is sent, and the law, keep their contracts. -/
import Derived.Test.YtnffahllpagicaaMtP
import Derived.Test.YtnffahllpagicaaMtJ
import Derived.Test.YtnffahllpagicaaMtD
set_option linter.unusedVariables false
set_option linter.unusedSimpArgs false
set_option maxRecDepth 100000
set_option maxHeartbeats 4000000
namespace Go.Proofs.Ytnffahllpagicaa
open Go Go.Sy Go.RowKit

noncomputable def qe0 : AE := .tl (.v 0) (.c 0) (.i (.c 6) (.i (.c 1000000) (.i (.c 0) (.i (.c 0) (.i (.c 0) (.i (.c 1000000000) (.i (.c 0) (.i (.c 0) (.i (.c 2) (.i (.c 9000000000) (.i (.c 0) (.i (.c 0) .nil))))))))))))
noncomputable def qe1 : AE := .ap 0 (.i (.c 1200) (.i (.c 1400) (.a qe0 .nil)))
noncomputable def qe2 : SE := .rd qe1 (.c 10)
noncomputable def qx0 : Vl := .out 0 [.b (.le qe2 (.c 1400)) (.c true)] [((.lt (.c 1200) qe2), true), ((.ap 0 (.i (.c 1200) (.i (.c 1400) (.a qe0 (.i (.c 3) .nil))))), true)]
noncomputable def qx1 : Vl := .out 0 [.b (.c false) (.c true)] [((.lt (.c 1200) qe2), false), ((.ap 0 (.i (.c 1200) (.i (.c 1400) (.a qe0 (.i (.c 3) .nil))))), true)]
noncomputable def qx2 : Vl := .dead [((.ap 0 (.i (.c 1200) (.i (.c 1400) (.a qe0 (.i (.c 3) .nil))))), false)]
noncomputable def qls : List Vl := [qx0, qx1, qx2]
theorem qrun : (run (prm5 Try.prog) 600 (enterD (prm5 Try.prog) ct5)).map (vOf (prm5 Try.prog) ct5 []) = qls := by kernel_rfl
-- 3 ways; terms: qe0, qe1, qe2


noncomputable def lae0 : SE := .add (.c 1200) (.v 0)
noncomputable def lae1 : SE := .tmod (.v 1) (.c 1024)
noncomputable def lae2 : SE := .add lae0 lae1
noncomputable def lae3 : SE := .sub lae2 lae0
noncomputable def lae4 : SE := .add lae3 (.c 1)
noncomputable def lae5 : SE := .tmod (.v 2) lae4
noncomputable def lae6 : SE := .add lae0 lae5
noncomputable def lae7 : SE := .wrap .i64 lae6
noncomputable def lae8 : SE := .add (.c 1) (.v 3)
noncomputable def lae9 : SE := .mul lae8 (.c 1000000)
noncomputable def lae10 : AE := .tl (.v 0) (.c 0) (.i (.c 6) (.i lae9 (.i (.c 0) (.i (.c 0) (.i (.c 0) (.i (.c 1000000000) (.i (.c 0) (.i (.c 0) .nil))))))))
noncomputable def lax0 : Vl := .dead [((.eq lae4 (.c 0)), true), ((.le (.c 0) (.v 0)), true), ((.le (.v 0) (.c 255)), true), ((.le (.c 0) (.v 1)), true), ((.le (.v 1) (.c 65535)), true), ((.le (.c 0) (.v 2)), true), ((.le (.v 2) (.c 65535)), true), ((.le (.c 0) (.v 3)), true), ((.le (.v 3) (.c 255)), true)]
noncomputable def lax1 : Vl := .go 0 [(7, (.c 2)), (10, (.c 0)), (9, (.c 1000000000)), (8, lae0), (6, lae7), (5, lae2), (4, lae0)] [] [(0, lae10)] [((.eq lae4 (.c 0)), false), ((.le (.c 0) (.v 0)), true), ((.le (.v 0) (.c 255)), true), ((.le (.c 0) (.v 1)), true), ((.le (.v 1) (.c 65535)), true), ((.le (.c 0) (.v 2)), true), ((.le (.v 2) (.c 65535)), true), ((.le (.c 0) (.v 3)), true), ((.le (.v 3) (.c 255)), true)] (.code (.loop (loopB (prm3 Try.prog).P 3 8))) (loopK (prm3 Try.prog).P 3 8)
noncomputable def lals : List Vl := [lax0, lax1]
theorem larun : (run (prm3 Try.prog) 600 (enterD (prm3 Try.prog) ct3)).map (vOf (prm3 Try.prog) ct3 (pts3 Try.prog)) = lals := by kernel_rfl
-- 2 ways; terms: lae0, lae1, lae2, lae3, lae4, lae5, lae6, lae7, lae8, lae9, lae10

noncomputable def l0e0 : SE := .mul (.v 7) (.c 4)
noncomputable def l0e1 : SE := .add (.v 9) (.c 10000000000)
noncomputable def l0e2 : AE := .tl (.v 0) l0e0 (.i (.c 1) (.i l0e1 (.i (.c 0) (.i (.c 0) .nil))))
noncomputable def l0e3 : AE := .ap 0 (.i (.v 4) (.i (.v 5) (.a l0e2 .nil)))
noncomputable def l0e4 : SE := .add (.v 7) (.c 1)
noncomputable def l0e5 : SE := .sub l0e4 (.c 1)
noncomputable def l0e6 : SE := .mul l0e5 (.c 4)
noncomputable def l0e7 : SE := .rd l0e3 l0e6
noncomputable def l0e8 : SE := .add l0e6 (.c 1)
noncomputable def l0e9 : SE := .rd l0e3 l0e8
noncomputable def l0e10 : SE := .add l0e6 (.c 3)
noncomputable def l0e11 : SE := .rd l0e3 l0e10
noncomputable def l0e12 : AE := .tl (.v 0) l0e0 (.i (.c 2) (.i l0e1 (.i (.c 0) (.i (.c 0) .nil))))
noncomputable def l0e13 : AE := .ap 0 (.i (.v 4) (.i (.v 5) (.a l0e12 .nil)))
noncomputable def l0e14 : SE := .add l0e6 (.c 2)
noncomputable def l0e15 : SE := .rd l0e13 l0e14
noncomputable def l0e16 : SE := .add (.v 7) (.c 2)
noncomputable def l0e17 : SE := .add (.v 10) (.c 1)
noncomputable def l0e18 : SE := .add l0e1 (.c 1000000)
noncomputable def l0e19 : AE := .tl (.v 0) l0e0 (.i (.c 2) (.i l0e1 (.i (.c 0) (.i (.c 0) (.i (.c 3) (.i l0e18 (.i (.c 0) (.i (.c 0) .nil))))))))
noncomputable def l0e20 : AE := .tl (.v 0) l0e0 (.i (.c 2) (.i l0e1 (.i (.c 0) (.i (.c 0) (.i (.c 4) (.i l0e18 (.i (.c 0) (.i (.c 0) .nil))))))))
noncomputable def l0e21 : SE := .sub (.v 6) (.v 8)
noncomputable def l0x0 : Vl := .out 0 [.b (.c false) (.c true)] [((.eq l0e7 (.c 0)), true), ((.eq l0e9 (.c 0)), true), ((.eq l0e11 (.v 8)), true), ((.lt l0e5 l0e4), true), ((.ap 0 (.i (.v 4) (.i (.v 5) (.a l0e2 (.i l0e4 .nil))))), true), ((.le (.c 1200) (.v 4)), true), ((.le (.v 4) (.c 1455)), true), ((.le (.c 1200) (.v 5)), true), ((.le (.v 5) (.c 2478)), true), ((.le (.c 1200) (.v 6)), true), ((.le (.v 6) (.c 2478)), true), ((.le (.c 0) (.v 7)), true), ((.le (.v 7) (.c 100)), true), ((.le (.c 0) (.v 8)), true), ((.le (.v 8) (.c 4096)), true), ((.le (.c 0) (.v 9)), true), ((.le (.v 9) (.c 1000000000000)), true), ((.le (.c 0) (.v 10)), true), ((.le (.v 10) (.c 40)), true)]
noncomputable def l0x1 : Vl := .out 0 [.b (.c false) (.c true)] [((.lt l0e15 (.v 8)), true), ((.ap 0 (.i (.v 4) (.i (.v 5) (.a l0e12 (.i l0e4 .nil))))), true), ((.eq l0e7 (.c 0)), false), ((.eq l0e9 (.c 0)), true), ((.eq l0e11 (.v 8)), true), ((.lt l0e5 l0e4), true), ((.ap 0 (.i (.v 4) (.i (.v 5) (.a l0e2 (.i l0e4 .nil))))), true), ((.le (.c 1200) (.v 4)), true), ((.le (.v 4) (.c 1455)), true), ((.le (.c 1200) (.v 5)), true), ((.le (.v 5) (.c 2478)), true), ((.le (.c 1200) (.v 6)), true), ((.le (.v 6) (.c 2478)), true), ((.le (.c 0) (.v 7)), true), ((.le (.v 7) (.c 100)), true), ((.le (.c 0) (.v 8)), true), ((.le (.v 8) (.c 4096)), true), ((.le (.c 0) (.v 9)), true), ((.le (.v 9) (.c 1000000000000)), true), ((.le (.c 0) (.v 10)), true), ((.le (.v 10) (.c 40)), true)]
noncomputable def l0x2 : Vl := .out 0 [.b (.c false) (.c true)] [((.lt (.v 5) l0e15), true), ((.lt l0e15 (.v 8)), false), ((.ap 0 (.i (.v 4) (.i (.v 5) (.a l0e12 (.i l0e4 .nil))))), true), ((.eq l0e7 (.c 0)), false), ((.eq l0e9 (.c 0)), true), ((.eq l0e11 (.v 8)), true), ((.lt l0e5 l0e4), true), ((.ap 0 (.i (.v 4) (.i (.v 5) (.a l0e2 (.i l0e4 .nil))))), true), ((.le (.c 1200) (.v 4)), true), ((.le (.v 4) (.c 1455)), true), ((.le (.c 1200) (.v 5)), true), ((.le (.v 5) (.c 2478)), true), ((.le (.c 1200) (.v 6)), true), ((.le (.v 6) (.c 2478)), true), ((.le (.c 0) (.v 7)), true), ((.le (.v 7) (.c 100)), true), ((.le (.c 0) (.v 8)), true), ((.le (.v 8) (.c 4096)), true), ((.le (.c 0) (.v 9)), true), ((.le (.v 9) (.c 1000000000000)), true), ((.le (.c 0) (.v 10)), true), ((.le (.v 10) (.c 40)), true)]
noncomputable def l0x3 : Vl := .go 0 [(7, l0e16), (10, l0e17), (9, l0e1), (8, l0e15), (6, (.v 6)), (5, (.v 5)), (4, (.v 4))] [] [(0, l0e19)] [((.le l0e15 (.v 6)), true), ((.lt (.v 5) l0e15), false), ((.lt l0e15 (.v 8)), false), ((.ap 0 (.i (.v 4) (.i (.v 5) (.a l0e12 (.i l0e4 .nil))))), true), ((.eq l0e7 (.c 0)), false), ((.eq l0e9 (.c 0)), true), ((.eq l0e11 (.v 8)), true), ((.lt l0e5 l0e4), true), ((.ap 0 (.i (.v 4) (.i (.v 5) (.a l0e2 (.i l0e4 .nil))))), true), ((.le (.c 1200) (.v 4)), true), ((.le (.v 4) (.c 1455)), true), ((.le (.c 1200) (.v 5)), true), ((.le (.v 5) (.c 2478)), true), ((.le (.c 1200) (.v 6)), true), ((.le (.v 6) (.c 2478)), true), ((.le (.c 0) (.v 7)), true), ((.le (.v 7) (.c 100)), true), ((.le (.c 0) (.v 8)), true), ((.le (.v 8) (.c 4096)), true), ((.le (.c 0) (.v 9)), true), ((.le (.v 9) (.c 1000000000000)), true), ((.le (.c 0) (.v 10)), true), ((.le (.v 10) (.c 40)), true)] (.exit .normal) (.loop (loopB (prm3 Try.prog).P 3 8) :: loopK (prm3 Try.prog).P 3 8)
noncomputable def l0x4 : Vl := .go 0 [(7, l0e16), (10, l0e17), (9, l0e1), (8, (.v 8)), (6, (.v 6)), (5, (.v 5)), (4, (.v 4))] [] [(0, l0e20)] [((.le l0e15 (.v 6)), false), ((.lt (.v 5) l0e15), false), ((.lt l0e15 (.v 8)), false), ((.ap 0 (.i (.v 4) (.i (.v 5) (.a l0e12 (.i l0e4 .nil))))), true), ((.eq l0e7 (.c 0)), false), ((.eq l0e9 (.c 0)), true), ((.eq l0e11 (.v 8)), true), ((.lt l0e5 l0e4), true), ((.ap 0 (.i (.v 4) (.i (.v 5) (.a l0e2 (.i l0e4 .nil))))), true), ((.le (.c 1200) (.v 4)), true), ((.le (.v 4) (.c 1455)), true), ((.le (.c 1200) (.v 5)), true), ((.le (.v 5) (.c 2478)), true), ((.le (.c 1200) (.v 6)), true), ((.le (.v 6) (.c 2478)), true), ((.le (.c 0) (.v 7)), true), ((.le (.v 7) (.c 100)), true), ((.le (.c 0) (.v 8)), true), ((.le (.v 8) (.c 4096)), true), ((.le (.c 0) (.v 9)), true), ((.le (.v 9) (.c 1000000000000)), true), ((.le (.c 0) (.v 10)), true), ((.le (.v 10) (.c 40)), true)] (.exit .normal) (.loop (loopB (prm3 Try.prog).P 3 8) :: loopK (prm3 Try.prog).P 3 8)
noncomputable def l0x5 : Vl := .dead [((.ap 0 (.i (.v 4) (.i (.v 5) (.a l0e12 (.i l0e4 .nil))))), false), ((.eq l0e7 (.c 0)), false), ((.eq l0e9 (.c 0)), true), ((.eq l0e11 (.v 8)), true), ((.lt l0e5 l0e4), true), ((.ap 0 (.i (.v 4) (.i (.v 5) (.a l0e2 (.i l0e4 .nil))))), true), ((.le (.c 1200) (.v 4)), true), ((.le (.v 4) (.c 1455)), true), ((.le (.c 1200) (.v 5)), true), ((.le (.v 5) (.c 2478)), true), ((.le (.c 1200) (.v 6)), true), ((.le (.v 6) (.c 2478)), true), ((.le (.c 0) (.v 7)), true), ((.le (.v 7) (.c 100)), true), ((.le (.c 0) (.v 8)), true), ((.le (.v 8) (.c 4096)), true), ((.le (.c 0) (.v 9)), true), ((.le (.v 9) (.c 1000000000000)), true), ((.le (.c 0) (.v 10)), true), ((.le (.v 10) (.c 40)), true)]
noncomputable def l0x6 : Vl := .out 0 [] [((.le l0e21 (.c 21)), true), ((.eq l0e7 (.c 0)), true), ((.eq l0e9 (.c 0)), false), ((.eq l0e11 (.v 8)), true), ((.lt l0e5 l0e4), true), ((.ap 0 (.i (.v 4) (.i (.v 5) (.a l0e2 (.i l0e4 .nil))))), true), ((.le (.c 1200) (.v 4)), true), ((.le (.v 4) (.c 1455)), true), ((.le (.c 1200) (.v 5)), true), ((.le (.v 5) (.c 2478)), true), ((.le (.c 1200) (.v 6)), true), ((.le (.v 6) (.c 2478)), true), ((.le (.c 0) (.v 7)), true), ((.le (.v 7) (.c 100)), true), ((.le (.c 0) (.v 8)), true), ((.le (.v 8) (.c 4096)), true), ((.le (.c 0) (.v 9)), true), ((.le (.v 9) (.c 1000000000000)), true), ((.le (.c 0) (.v 10)), true), ((.le (.v 10) (.c 40)), true)]
noncomputable def l0x7 : Vl := .out 0 [.b (.c false) (.c true)] [((.le l0e21 (.c 21)), false), ((.eq l0e7 (.c 0)), true), ((.eq l0e9 (.c 0)), false), ((.eq l0e11 (.v 8)), true), ((.lt l0e5 l0e4), true), ((.ap 0 (.i (.v 4) (.i (.v 5) (.a l0e2 (.i l0e4 .nil))))), true), ((.le (.c 1200) (.v 4)), true), ((.le (.v 4) (.c 1455)), true), ((.le (.c 1200) (.v 5)), true), ((.le (.v 5) (.c 2478)), true), ((.le (.c 1200) (.v 6)), true), ((.le (.v 6) (.c 2478)), true), ((.le (.c 0) (.v 7)), true), ((.le (.v 7) (.c 100)), true), ((.le (.c 0) (.v 8)), true), ((.le (.v 8) (.c 4096)), true), ((.le (.c 0) (.v 9)), true), ((.le (.v 9) (.c 1000000000000)), true), ((.le (.c 0) (.v 10)), true), ((.le (.v 10) (.c 40)), true)]
noncomputable def l0x8 : Vl := .out 0 [.b (.c false) (.c true)] [((.eq l0e7 (.c 0)), false), ((.eq l0e9 (.c 0)), false), ((.eq l0e11 (.v 8)), true), ((.lt l0e5 l0e4), true), ((.ap 0 (.i (.v 4) (.i (.v 5) (.a l0e2 (.i l0e4 .nil))))), true), ((.le (.c 1200) (.v 4)), true), ((.le (.v 4) (.c 1455)), true), ((.le (.c 1200) (.v 5)), true), ((.le (.v 5) (.c 2478)), true), ((.le (.c 1200) (.v 6)), true), ((.le (.v 6) (.c 2478)), true), ((.le (.c 0) (.v 7)), true), ((.le (.v 7) (.c 100)), true), ((.le (.c 0) (.v 8)), true), ((.le (.v 8) (.c 4096)), true), ((.le (.c 0) (.v 9)), true), ((.le (.v 9) (.c 1000000000000)), true), ((.le (.c 0) (.v 10)), true), ((.le (.v 10) (.c 40)), true)]
noncomputable def l0x9 : Vl := .out 0 [.b (.c false) (.c true)] [((.eq l0e11 (.v 8)), false), ((.lt l0e5 l0e4), true), ((.ap 0 (.i (.v 4) (.i (.v 5) (.a l0e2 (.i l0e4 .nil))))), true), ((.le (.c 1200) (.v 4)), true), ((.le (.v 4) (.c 1455)), true), ((.le (.c 1200) (.v 5)), true), ((.le (.v 5) (.c 2478)), true), ((.le (.c 1200) (.v 6)), true), ((.le (.v 6) (.c 2478)), true), ((.le (.c 0) (.v 7)), true), ((.le (.v 7) (.c 100)), true), ((.le (.c 0) (.v 8)), true), ((.le (.v 8) (.c 4096)), true), ((.le (.c 0) (.v 9)), true), ((.le (.v 9) (.c 1000000000000)), true), ((.le (.c 0) (.v 10)), true), ((.le (.v 10) (.c 40)), true)]
noncomputable def l0x10 : Vl := .dead [((.lt l0e5 l0e4), false), ((.ap 0 (.i (.v 4) (.i (.v 5) (.a l0e2 (.i l0e4 .nil))))), true), ((.le (.c 1200) (.v 4)), true), ((.le (.v 4) (.c 1455)), true), ((.le (.c 1200) (.v 5)), true), ((.le (.v 5) (.c 2478)), true), ((.le (.c 1200) (.v 6)), true), ((.le (.v 6) (.c 2478)), true), ((.le (.c 0) (.v 7)), true), ((.le (.v 7) (.c 100)), true), ((.le (.c 0) (.v 8)), true), ((.le (.v 8) (.c 4096)), true), ((.le (.c 0) (.v 9)), true), ((.le (.v 9) (.c 1000000000000)), true), ((.le (.c 0) (.v 10)), true), ((.le (.v 10) (.c 40)), true)]
noncomputable def l0x11 : Vl := .dead [((.ap 0 (.i (.v 4) (.i (.v 5) (.a l0e2 (.i l0e4 .nil))))), false), ((.le (.c 1200) (.v 4)), true), ((.le (.v 4) (.c 1455)), true), ((.le (.c 1200) (.v 5)), true), ((.le (.v 5) (.c 2478)), true), ((.le (.c 1200) (.v 6)), true), ((.le (.v 6) (.c 2478)), true), ((.le (.c 0) (.v 7)), true), ((.le (.v 7) (.c 100)), true), ((.le (.c 0) (.v 8)), true), ((.le (.v 8) (.c 4096)), true), ((.le (.c 0) (.v 9)), true), ((.le (.v 9) (.c 1000000000000)), true), ((.le (.c 0) (.v 10)), true), ((.le (.v 10) (.c 40)), true)]
noncomputable def l0ls : List Vl := [l0x0, l0x1, l0x2, l0x3, l0x4, l0x5, l0x6, l0x7, l0x8, l0x9, l0x10, l0x11]
theorem l0run : (run (prm3 Try.prog) 900 (ptD (pts3 Try.prog) 0 3)).map (vOf (prm3 Try.prog) ct3 (pts3 Try.prog)) = l0ls := by kernel_rfl
-- 12 ways; terms: l0e0, l0e1, l0e2, l0e3, l0e4, l0e5, l0e6, l0e7, l0e8, l0e9, l0e10, l0e11, l0e12, l0e13, l0e14, l0e15, l0e16, l0e17, l0e18, l0e19, l0e20, l0e21


theorem prm5_ok (E : Env) (hE : E.fn = fns) : PrmOk E (prm5 Try.prog) where
  ct := by
    intro c hc
    simp only [prm5, List.mem_cons, List.not_mem_nil, or_false] at hc
    rw [hE, hc]; exact ct4_ok
  mix := by kernel_rfl
  okf := okf_call
  body := okf_body
  mts := by intro x hx; cases hx
  dfr := by intro x hx; cases hx
  dfk := by intro x hx; cases hx
theorem nth0 {E : Env} (x : SE) (r : SL) : (SL.i x r).nth E 0 = x.den E := rfl
theorem nthS {E : Env} (x : SE) (r : SL) (n : Nat) : (SL.i x r).nth E (n + 1) = r.nth E n := rfl
theorem g0d {E : Env} (hE : E.fn = fns) {l m n : SE} {a : AE} : (SB.ap 0 (.i l (.i m (.a a (.i n .nil))))).den E = true ↔ scrOk (l.den E) (m.den E) (a.den E) (n.den E).toNat := by
  show E.fn.g 0 [.i (l.den E), .i (m.den E), .a (a.den E), .i (n.den E)] = true ↔ _
  rw [hE]
  exact @decide_eq_true_iff _ (Classical.propDecidable _)
theorem a0d {E : Env} (hE : E.fn = fns) {l m : SE} {a : AE} (j : Nat) : (AE.ap 0 (.i l (.i m (.a a .nil)))).den E j = outA (l.den E) (m.den E) (a.den E) j := by
  simp only [AE.den]
  show E.fn.a 0 [.i (l.den E), .i (m.den E), .a (a.den E)] j = _
  rw [hE]; rfl
theorem tl0 {E : Env} (a : AE) (l : SL) (j : Nat) : (AE.tl a (.c 0) l).den E j = l.nth E j := by
  have : ((SE.c 0).den E).toNat * 1 = 0 := rfl
  simp only [AE.den]
  show (if j < 0 then _ else _) = _
  rw [if_neg (by omega)]; rfl
theorem ct5_ok : CtOk Try.prog fns ct5 := by
  refine ct_of_pts (p := prm5 Try.prog) (pts := []) (n := 600) (c0 := enterD (prm5 Try.prog) ct5) (fun E hE => prm5_ok E hE) rfl (by intro q hq; cases hq) Try.func5 (by kernel_rfl) (by intro t ht; cases ht) (fun _ _ _ => True) (fun _ _ _ => 0) qls qrun ?_ (by intro i t ht; simp at ht)
  intro E hE hF
  obtain ⟨w1, w2⟩ := awake (A := qe0.den E) rfl rfl rfl rfl rfl rfl
  have hq2 : qe2.den E = 1300 := by
    unfold qe2 qe1
    rw [d_rd, a0d hE]
    exact w2
  refine ⟨fun a ha => ?_, fun x hx => ?_⟩
  · obtain rfl := Option.some.inj ha; intro q hq; cases hq
  · unfold qls at hx
    simp only [List.mem_cons, List.not_mem_nil, or_false] at hx
    rcases hx with rfl | rfl | rfl
    · intro hf
      refine ⟨rfl, ?_⟩
      simp only [List.forall_mem_cons, List.not_mem_nil, false_imp_iff, implies_true, and_true, Eqn.ok, d_bc, le_t, hq2, d_c]
      decide
    · intro hf
      exfalso
      have h1 := hf ((.lt (.c 1200) qe2), false) (by simp)
      simp only [lt_f, hq2, d_c] at h1
      omega
    · intro hf
      have h1 := hf ((.ap 0 (.i (.c 1200) (.i (.c 1400) (.a qe0 (.i (.c 3) .nil))))), false) (by simp)
      have h2 := (g0d hE (l := .c 1200) (m := .c 1400) (a := qe0) (n := .c 3)).2 w1
      rw [h2] at h1
      cases h1
theorem prm3_ok (E : Env) (hE : E.fn = fns) : PrmOk E (prm3 Try.prog) where
  ct := by
    intro c hc
    simp only [prm3, List.mem_cons, List.not_mem_nil, or_false] at hc
    rw [hE]
    rcases hc with rfl | rfl
    · exact ct4_ok
    · exact ct5_ok
  mix := by kernel_rfl
  okf := okf_call
  body := okf_body
  mts := by intro x hx; cases hx
  dfr := by intro x hx; cases hx
  dfk := by intro x hx; cases hx
/-- What holds at the head of the law's loop. -/
structure I3 (E : Env) (L : Nat) : Prop where
  h7 : E.i 7 = L
  n0 : 0 ≤ E.i 10
  n1 : E.i 7 = 2 + 2 * E.i 10
  l0 : 1200 ≤ E.i 4 ∧ E.i 4 ≤ 1455
  j : Jn (E.a 0) L (E.i 4) (E.i 5) (E.i 6) (E.i 8) (E.i 9) (E.i 10)
theorem ct3_ok : CtOk Try.prog fns ct3 := by
  refine ct_of_pts (p := prm3 Try.prog) (pts := pts3 Try.prog) (n := 900) (c0 := enterD (prm3 Try.prog) ct3) (fun E hE => prm3_ok E hE) rfl (by intro q hq; cases hq) Try.func3 (by kernel_rfl) ?_ (fun _ _ E => ∃ L, I3 E L) (fun E0 _ E => (100 - E.i 10).toNat) lals (by kernel_rfl) ?_ ?_
  · intro t ht
    simp only [pts3, List.mem_cons, List.not_mem_nil, or_false] at ht
    subst ht
    exact ⟨by kernel_rfl, by decide⟩
  · intro E hE hF
    simp only [ct3, bd, List.cons_append, List.nil_append, facts_cons, facts_nil, le_t, d_c, d_v, and_true] at hF
    refine ⟨fun a ha => ?_, fun x hx => ?_⟩
    · obtain rfl := Option.some.inj ha; intro q hq; cases hq
    · unfold lals at hx
      simp only [List.mem_cons, List.not_mem_nil, or_false] at hx
      rcases hx with rfl | rfl
      · intro hf
        simp only [facts_cons, facts_nil, lt_t, lt_f, le_t, le_f, eq_t, eq_f, and_true, d_c, d_v, d_add, d_sub, d_tmod, lae0, lae1, lae2, lae3, lae4] at hf
        have h1 := tmn (a := E.i 1) (b := 1024) (by omega)
        omega
      · intro hf
        refine ⟨⟨_, rfl, .inl ⟨rfl, rfl⟩⟩, fun o => ⟨⟨2, rfl, ?_, rfl, ?_, ?_⟩, fun b hb => by cases hb⟩⟩
        · show (0 : Int) ≤ 0; decide
        · show 1200 ≤ 1200 + E.i 0 ∧ 1200 + E.i 0 ≤ 1455; omega
        · have h1 := tmn (a := E.i 1) (b := 1024) (by omega)
          have e4 : lae4.den E = E.i 1 % 1024 + 1 := by
            simp only [d_c, d_v, d_add, d_sub, d_tmod, lae0, lae1, lae2, lae3, lae4, h1]; omega
          have h2 := tmn (a := E.i 2) (b := E.i 1 % 1024 + 1) (by omega)
          have h3 : 0 ≤ E.i 2 % (E.i 1 % 1024 + 1) := Int.emod_nonneg _ (by omega)
          have h4 : E.i 2 % (E.i 1 % 1024 + 1) < E.i 1 % 1024 + 1 := Int.emod_lt_of_pos _ (by omega)
          have e7 : lae7.den E = 1200 + E.i 0 + E.i 2 % (E.i 1 % 1024 + 1) := by
            unfold lae7 lae6 lae5
            rw [d_wrap, d_add, d_tmod, e4, d_v, h2]
            simp only [lae0, d_add, d_c, d_v]
            rw [w64 (by omega)]
          have e2 : lae2.den E = 1200 + E.i 0 + E.i 1 % 1024 := by
            simp only [d_c, d_v, d_add, d_tmod, lae0, lae1, lae2, h1]
          have goal : Jn (lae10.den E) 2 (1200 + E.i 0) (lae2.den E) (lae7.den E) (1200 + E.i 0) 1000000000 0 := by
            refine Jn.start (rtt := E.i 3) (by omega) (by rw [e7]; omega) (by rw [e2, e7]; omega) (by rw [e2]; omega) (by omega) ?_ ?_ ?_ ?_
            · unfold lae10; rw [tl0]; rfl
            · unfold lae10; rw [tl0]; rfl
            · unfold lae10; rw [tl0]; rfl
            · unfold lae10; rw [tl0]; rfl
          exact goal
  · intro k t ht
    have hk : k = 0 := by
      have := (List.getElem?_eq_some_iff.1 ht).1
      simp [pts3] at this; omega
    subst hk
    refine ⟨l0ls, by rw [← ptD_some ht ct3.g]; exact l0run, fun E0 E hE0 hE hF0 ⟨L, hI⟩ => ?_⟩
    obtain ⟨h7, n0, n1, l0, J⟩ := hI
    have hpn := pot_nonneg J.inv
    have hpot := J.pot
    have htop := J.inv.top_lt
    have t0 := J.t0
    have hmn := J.mn
    have i1 := J.inv.mn; have i2 := J.inv.mp; have i3 := J.inv.pm; have i4 := J.inv.sp
    rw [hmn] at i1 i2
    have hL : (l0e0.den E).toNat = L * 4 := by simp only [l0e0, d_mul, d_v, d_c, h7]; omega
    have h6 : (l0e6.den E).toNat = L * 4 := by simp only [l0e6, l0e5, l0e4, d_sub, d_add, d_mul, d_v, d_c, h7]; omega
    have h8 : (l0e8.den E).toNat = L * 4 + 1 := by simp only [l0e8, l0e6, l0e5, l0e4, d_sub, d_add, d_mul, d_v, d_c, h7]; omega
    have h10 : (l0e10.den E).toNat = L * 4 + 3 := by simp only [l0e10, l0e6, l0e5, l0e4, d_sub, d_add, d_mul, d_v, d_c, h7]; omega
    have h14 : (l0e14.den E).toNat = L * 4 + 2 := by simp only [l0e14, l0e6, l0e5, l0e4, d_sub, d_add, d_mul, d_v, d_c, h7]; omega
    have hn : (l0e4.den E).toNat = L + 1 := by simp only [l0e4, d_add, d_v, d_c, h7]; omega
    have tlA : ∀ (l : SL) (j : Nat), j < L * 4 → (AE.tl (.v 0) l0e0 l).den E j = E.a 0 j := by
      intro l j hj
      simp only [AE.den, hL]; rw [if_pos hj]
    have tlB : ∀ (l : SL) (c : Nat), (AE.tl (.v 0) l0e0 l).den E (4 * L + c) = l.nth E c := by
      intro l c
      simp only [AE.den, hL]; rw [if_neg (by omega), show 4 * L + c - L * 4 = c from by omega]
    have ask := J.ask (B := l0e2.den E) (by omega) (fun j hj => tlA _ j hj) (tlB _ 0) (tlB _ 1)
    obtain ⟨a1, a2, a3, a4⟩ := ask
    have probe := J.probe (B := l0e12.den E) (by omega) (fun j hj => tlA _ j hj) (tlB _ 0) (tlB _ 1)
    obtain ⟨p1, p2⟩ := probe
    have q11 : l0e11.den E = E.i 8 := by
      unfold l0e11 l0e3; rw [d_rd, a0d hE, h10]; exact a2
    have q9 : l0e9.den E = b2i (decide ((stAt (E.i 4) (E.i 5) (E.a 0) L).top - E.i 8 ≤ 21)) := by
      unfold l0e9 l0e3; rw [d_rd, a0d hE, h8]; exact a3
    have q7 : l0e7.den E = b2i (decide (¬ (stAt (E.i 4) (E.i 5) (E.a 0) L).top - E.i 8 ≤ 21)) := by
      unfold l0e7 l0e3; rw [d_rd, a0d hE, h6]; exact a4
    have q15 : l0e15.den E = (stAt (E.i 4) (E.i 5) (E.a 0) L).next := by
      unfold l0e15 l0e13; rw [d_rd, a0d hE, h14]; exact p2
    have g1 : (SB.ap 0 (.i (.v 4) (.i (.v 5) (.a l0e2 (.i l0e4 .nil))))).den E = true := (g0d hE).2 (by rw [hn]; exact a1)
    have g2 : (SB.ap 0 (.i (.v 4) (.i (.v 5) (.a l0e12 (.i l0e4 .nil))))).den E = true := (g0d hE).2 (by rw [hn]; exact p1)
    have q54 : l0e5.den E < l0e4.den E := by simp only [l0e5, l0e4, d_sub, d_add, d_v, d_c]; omega
    have q21 : l0e21.den E = E.i 6 - E.i 8 := rfl
    refine ⟨?_, fun x hx => ?_⟩
    · obtain rfl := Option.some.inj ht
      simp only [bd, List.cons_append, List.nil_append, facts_cons, facts_nil, le_t, d_c, d_v, and_true]
      omega
    · have hnext : ¬ (stAt (E.i 4) (E.i 5) (E.a 0) L).top - E.i 8 ≤ 21 → E.i 8 ≤ l0e15.den E ∧ l0e15.den E ≤ E.i 5 := fun h => by
        have := J.inv.next_in (by rw [hmn]; omega)
        rw [q15]; rw [hmn] at this; omega
      have hnd : l0e7.den E = 0 ∨ (¬ (stAt (E.i 4) (E.i 5) (E.a 0) L).top - E.i 8 ≤ 21) := by
        by_cases h : (stAt (E.i 4) (E.i 5) (E.a 0) L).top - E.i 8 ≤ 21
        · left; rw [q7, decide_eq_false (by omega)]; rfl
        · exact .inr h
      have hboth : (l0e7.den E = 0 ∧ l0e9.den E = 1 ∧ (stAt (E.i 4) (E.i 5) (E.a 0) L).top - E.i 8 ≤ 21) ∨ (l0e7.den E = 1 ∧ l0e9.den E = 0 ∧ ¬ (stAt (E.i 4) (E.i 5) (E.a 0) L).top - E.i 8 ≤ 21) := by
        by_cases h : (stAt (E.i 4) (E.i 5) (E.a 0) L).top - E.i 8 ≤ 21
        · left; rw [q7, q9, decide_eq_false (by omega), decide_eq_true h]; exact ⟨rfl, rfl, h⟩
        · right; rw [q7, q9, decide_eq_false h, decide_eq_true h]; exact ⟨rfl, rfl, h⟩
      unfold l0ls at hx
      simp only [List.mem_cons, List.not_mem_nil, or_false] at hx
      rcases hx with rfl | rfl | rfl | rfl | rfl | rfl | rfl | rfl | rfl | rfl | rfl | rfl
      all_goals intro hf
      all_goals simp only [facts_cons, facts_nil, lt_t, lt_f, le_t, le_f, eq_t, eq_f, and_true, d_c, d_v, g1, g2, true_and, and_true, reduceCtorEq, Bool.true_eq_false, Bool.false_eq_true, false_and, and_false] at hf
      all_goals try (exfalso; omega)
      · -- it came through
        have hnd := hnd.resolve_left (by omega)
        have hle : (stAt (E.i 4) (E.i 5) (E.a 0) L).next ≤ E.i 6 := by rw [← q15]; omega
        refine ⟨⟨_, rfl, .inr ⟨rfl, rfl⟩⟩, fun o => ⟨⟨L + 2, ?_, ?_, ?_, l0, ?_⟩, fun b hb => ?_⟩⟩
        · show E.i 7 + 2 = _; omega
        · show 0 ≤ E.i 10 + 1; omega
        · show E.i 7 + 2 = 2 + 2 * (E.i 10 + 1); omega
        · have := J.step (B := l0e19.den E) (k := 3) (by omega) (by omega) hnd (fun j hj => tlA _ j hj) (tlB _ 0) (tlB _ 1) (tlB _ 4) (tlB _ 5) (by rw [if_pos hle])
          rw [if_pos hle, ← q15] at this
          exact this
        · obtain rfl := Option.some.inj hb
          show (100 - (E.i 10 + 1)).toNat < _
          omega
      · -- it was lost
        have hnd := hnd.resolve_left (by omega)
        have hle : ¬ (stAt (E.i 4) (E.i 5) (E.a 0) L).next ≤ E.i 6 := by rw [← q15]; omega
        refine ⟨⟨_, rfl, .inr ⟨rfl, rfl⟩⟩, fun o => ⟨⟨L + 2, ?_, ?_, ?_, l0, ?_⟩, fun b hb => ?_⟩⟩
        · show E.i 7 + 2 = _; omega
        · show 0 ≤ E.i 10 + 1; omega
        · show E.i 7 + 2 = 2 + 2 * (E.i 10 + 1); omega
        · have := J.step (B := l0e20.den E) (k := 4) (by omega) (by omega) hnd (fun j hj => tlA _ j hj) (tlB _ 0) (tlB _ 1) (tlB _ 4) (tlB _ 5) (by rw [if_neg hle])
          rw [if_neg hle] at this
          exact this
        · obtain rfl := Option.some.inj hb
          show (100 - (E.i 10 + 1)).toNat < _
          omega
      · exact ⟨rfl, by simp only [List.not_mem_nil, false_imp_iff, implies_true]⟩
end Go.Proofs.Ytnffahllpagicaa
