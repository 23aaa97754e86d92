/- FnQCNever keeps its contract. -/
import Derived.Test.YtjanndmmhjnpcaaDoorQcP
import Derived.Test.YtjanndmmhjnpcaaDoorQcR
import Derived.KernelRfl
set_option autoImplicit true
set_option relaxedAutoImplicit true
set_option linter.unusedVariables false
set_option linter.unusedSimpArgs false
set_option maxRecDepth 100000
set_option maxHeartbeats 8000000
namespace Go.Proofs.YtjanndmmhjnpcaaDoor
open Go Go.Sy Go.RowKit
noncomputable def lae0 : AE := .tl (.v 0) (.c 0) .nil
noncomputable def lax0 : Vl := .out 0 [.a (.v 0) (.v 0) (.v 1) 1, .i (.v 1) (.v 1)] [((.lt (.c 2147483647) (.v 1)), true), ((.le (.c 0) (.v 30)), true), ((.le (.v 30) (.c 255)), true), ((.le (.c 0) (.v 12)), true), ((.le (.v 12) (.c 4294967295)), true), ((.le (.c 0) (.v 1)), true), ((.le (.v 1) (.v 3)), true), ((.ap 16 (.a (.v 0) (.i (.v 1) .nil))), true)]
noncomputable def lax1 : Vl := .go 0 [(130, (.c 0)), (140, (.v 1000)), (150, (.c 0))] [] [(105, (.v 1000)), (132, lae0), (131, lae0), (123, (.v 1002)), (121, (.v 1001))] [((.le (.c 0) (.v 1000)), true), ((.le (.v 1000) (.c 40)), true), ((.ap 3 (.a (.v 1000) (.i (.v 1000) .nil))), true), ((.lt (.c 2147483647) (.v 1)), false), ((.le (.c 0) (.v 30)), true), ((.le (.v 30) (.c 255)), true), ((.le (.c 0) (.v 12)), true), ((.le (.v 12) (.c 4294967295)), true), ((.le (.c 0) (.v 1)), true), ((.le (.v 1) (.v 3)), true), ((.ap 16 (.a (.v 0) (.i (.v 1) .nil))), true)] (.code (.loop (loopB (prm3 Tryd.prog).P 3 9))) (loopK (prm3 Tryd.prog).P 3 9)
noncomputable def lals : List Vl := [lax0, lax1]
theorem larun : (run (prm3 Tryd.prog) 900 (enterD (prm3 Tryd.prog) ct3)).map (vOf (prm3 Tryd.prog) ct3 (pts3 Tryd.prog)) = lals := by kernel_rfl
-- 2 ways; terms: lae0
noncomputable def lp0e0 : AE := .ap 21 (.a (.v 105) (.i (.v 12) .nil))
noncomputable def lp0e1 : SE := .mul (.v 130) (.c 3)
noncomputable def lp0e2 : SE := .rd lp0e0 lp0e1
noncomputable def lp0e3 : AE := .ap 20 (.a (.v 105) (.i (.v 12) .nil))
noncomputable def lp0e4 : SE := .mul (.v 130) (.c 6)
noncomputable def lp0e5 : SE := .rd lp0e3 lp0e4
noncomputable def lp0x0 : Vl := .go 1 [(160, (.c 0))] [] [] [((.le (.c 0) lp0e2), true), ((.eq lp0e5 (.c 0)), true), ((.lt (.v 130) (.v 140)), true), ((.le (.c 0) (.v 30)), true), ((.le (.v 30) (.c 255)), true), ((.le (.c 0) (.v 12)), true), ((.le (.v 12) (.c 4294967295)), true), ((.le (.c 0) (.v 1)), true), ((.le (.v 1) (.v 3)), true), ((.ap 16 (.a (.v 0) (.i (.v 1) .nil))), true), ((.le (.c 0) (.v 130)), true), ((.le (.v 130) (.c 50)), true), ((.le (.c 0) (.v 140)), true), ((.le (.v 140) (.c 40)), true), ((.le (.c 0) (.v 150)), true), ((.le (.v 150) (.c 255)), true)] (.code (.loop (loopB (prm3 Tryd.prog).P 3 14))) (loopK (prm3 Tryd.prog).P 3 14)
noncomputable def lp0x1 : Vl := .dead [((.le (.c 0) lp0e2), false), ((.eq lp0e5 (.c 0)), true), ((.lt (.v 130) (.v 140)), true), ((.le (.c 0) (.v 30)), true), ((.le (.v 30) (.c 255)), true), ((.le (.c 0) (.v 12)), true), ((.le (.v 12) (.c 4294967295)), true), ((.le (.c 0) (.v 1)), true), ((.le (.v 1) (.v 3)), true), ((.ap 16 (.a (.v 0) (.i (.v 1) .nil))), true), ((.le (.c 0) (.v 130)), true), ((.le (.v 130) (.c 50)), true), ((.le (.c 0) (.v 140)), true), ((.le (.v 140) (.c 40)), true), ((.le (.c 0) (.v 150)), true), ((.le (.v 150) (.c 255)), true)]
noncomputable def lp0x2 : Vl := .out 0 [.a (.v 0) (.v 0) (.v 1) 1, .i (.v 1) (.v 1)] [((.eq lp0e5 (.c 0)), false), ((.lt (.v 130) (.v 140)), true), ((.le (.c 0) (.v 30)), true), ((.le (.v 30) (.c 255)), true), ((.le (.c 0) (.v 12)), true), ((.le (.v 12) (.c 4294967295)), true), ((.le (.c 0) (.v 1)), true), ((.le (.v 1) (.v 3)), true), ((.ap 16 (.a (.v 0) (.i (.v 1) .nil))), true), ((.le (.c 0) (.v 130)), true), ((.le (.v 130) (.c 50)), true), ((.le (.c 0) (.v 140)), true), ((.le (.v 140) (.c 40)), true), ((.le (.c 0) (.v 150)), true), ((.le (.v 150) (.c 255)), true)]
noncomputable def lp0x3 : Vl := .out 0 [.a (.v 0) (.v 0) (.v 1) 1, .i (.v 1) (.v 1)] [((.lt (.v 130) (.v 140)), false), ((.le (.c 0) (.v 30)), true), ((.le (.v 30) (.c 255)), true), ((.le (.c 0) (.v 12)), true), ((.le (.v 12) (.c 4294967295)), true), ((.le (.c 0) (.v 1)), true), ((.le (.v 1) (.v 3)), true), ((.ap 16 (.a (.v 0) (.i (.v 1) .nil))), true), ((.le (.c 0) (.v 130)), true), ((.le (.v 130) (.c 50)), true), ((.le (.c 0) (.v 140)), true), ((.le (.v 140) (.c 40)), true), ((.le (.c 0) (.v 150)), true), ((.le (.v 150) (.c 255)), true)]
noncomputable def lp0ls : List Vl := [lp0x0, lp0x1, lp0x2, lp0x3]
theorem lp0run : (run (prm3 Tryd.prog) 900 (ptD (pts3 Tryd.prog) 0 3)).map (vOf (prm3 Tryd.prog) ct3 (pts3 Tryd.prog)) = lp0ls := by kernel_rfl
-- 4 ways; terms: lp0e0, lp0e1, lp0e2, lp0e3, lp0e4, lp0e5
noncomputable def lp1e0 : SE := .add (.v 160) (.c 1)
noncomputable def lp1e1 : AE := .ap 22 (.a (.v 105) (.i (.v 12) .nil))
noncomputable def lp1e2 : SE := .mul (.v 130) (.c 3)
noncomputable def lp1e3 : SE := .mul lp1e2 (.c 64)
noncomputable def lp1e4 : SE := .add lp1e3 (.v 160)
noncomputable def lp1e5 : SE := .rd lp1e1 lp1e4
noncomputable def lp1e6 : AE := .up (.v 132) lp1e5 (.c 1)
noncomputable def lp1e7 : AE := .up (.v 131) lp1e5 (.c 1)
noncomputable def lp1e8 : AE := .ap 21 (.a (.v 105) (.i (.v 12) .nil))
noncomputable def lp1e9 : SE := .rd lp1e8 lp1e2
noncomputable def lp1e10 : SE := .add (.v 130) (.c 1)
noncomputable def lp1e11 : SE := .mul (.v 130) (.c 5)
noncomputable def lp1e12 : SE := .add lp1e11 (.c 2)
noncomputable def lp1e13 : SE := .rd (.v 105) lp1e12
noncomputable def lp1e14 : SE := .mx (.v 150) lp1e13
noncomputable def lp1e15 : SE := .rd (.v 105) lp1e11
noncomputable def lp1e16 : AE := .ap 20 (.a (.v 105) (.i (.v 12) .nil))
noncomputable def lp1e17 : SE := .mul (.v 130) (.c 6)
noncomputable def lp1e18 : SE := .add lp1e17 (.c 1)
noncomputable def lp1e19 : SE := .rd lp1e16 lp1e18
noncomputable def lp1e20 : SE := .wrap .u64 lp1e19
noncomputable def lp1e21 : SE := .rd (.v 131) lp1e20
noncomputable def lp1e22 : SE := .rd (.v 132) lp1e20
noncomputable def lp1x0 : Vl := .go 1 [(160, lp1e0)] [] [(132, lp1e6), (131, lp1e7)] [((.le (.c 0) lp1e5), true), ((.lt (.v 160) lp1e9), true), ((.le (.c 0) (.v 30)), true), ((.le (.v 30) (.c 255)), true), ((.le (.c 0) (.v 12)), true), ((.le (.v 12) (.c 4294967295)), true), ((.le (.c 0) (.v 1)), true), ((.le (.v 1) (.v 3)), true), ((.ap 16 (.a (.v 0) (.i (.v 1) .nil))), true), ((.le (.c 0) (.v 130)), true), ((.le (.v 130) (.c 50)), true), ((.le (.c 0) (.v 140)), true), ((.le (.v 140) (.c 40)), true), ((.le (.c 0) (.v 150)), true), ((.le (.v 150) (.c 255)), true), ((.lt (.v 130) (.v 140)), true), ((.le (.c 0) (.v 160)), true), ((.le (.v 160) (.c 64)), true)] (.exit .normal) (.loop (loopB (prm3 Tryd.prog).P 3 14) :: loopK (prm3 Tryd.prog).P 3 14)
noncomputable def lp1x1 : Vl := .dead [((.le (.c 0) lp1e5), false), ((.lt (.v 160) lp1e9), true), ((.le (.c 0) (.v 30)), true), ((.le (.v 30) (.c 255)), true), ((.le (.c 0) (.v 12)), true), ((.le (.v 12) (.c 4294967295)), true), ((.le (.c 0) (.v 1)), true), ((.le (.v 1) (.v 3)), true), ((.ap 16 (.a (.v 0) (.i (.v 1) .nil))), true), ((.le (.c 0) (.v 130)), true), ((.le (.v 130) (.c 50)), true), ((.le (.c 0) (.v 140)), true), ((.le (.v 140) (.c 40)), true), ((.le (.c 0) (.v 150)), true), ((.le (.v 150) (.c 255)), true), ((.lt (.v 130) (.v 140)), true), ((.le (.c 0) (.v 160)), true), ((.le (.v 160) (.c 64)), true)]
noncomputable def lp1x2 : Vl := .go 0 [(130, lp1e10), (150, lp1e14)] [] [] [((.eq lp1e15 (.c 0)), true), ((.lt (.v 160) lp1e9), false), ((.le (.c 0) (.v 30)), true), ((.le (.v 30) (.c 255)), true), ((.le (.c 0) (.v 12)), true), ((.le (.v 12) (.c 4294967295)), true), ((.le (.c 0) (.v 1)), true), ((.le (.v 1) (.v 3)), true), ((.ap 16 (.a (.v 0) (.i (.v 1) .nil))), true), ((.le (.c 0) (.v 130)), true), ((.le (.v 130) (.c 50)), true), ((.le (.c 0) (.v 140)), true), ((.le (.v 140) (.c 40)), true), ((.le (.c 0) (.v 150)), true), ((.le (.v 150) (.c 255)), true), ((.lt (.v 130) (.v 140)), true), ((.le (.c 0) (.v 160)), true), ((.le (.v 160) (.c 64)), true)] (.exit .normal) (.loop (loopB (prm3 Tryd.prog).P 3 9) :: loopK (prm3 Tryd.prog).P 3 9)
noncomputable def lp1x3 : Vl := .out 0 [.b (.c false) (.c true), .a (.v 0) (.v 0) (.v 1) 1, .i (.v 1) (.v 1)] [((.lt lp1e19 (.c 0)), true), ((.eq lp1e15 (.c 2)), true), ((.eq lp1e15 (.c 0)), false), ((.lt (.v 160) lp1e9), false), ((.le (.c 0) (.v 30)), true), ((.le (.v 30) (.c 255)), true), ((.le (.c 0) (.v 12)), true), ((.le (.v 12) (.c 4294967295)), true), ((.le (.c 0) (.v 1)), true), ((.le (.v 1) (.v 3)), true), ((.ap 16 (.a (.v 0) (.i (.v 1) .nil))), true), ((.le (.c 0) (.v 130)), true), ((.le (.v 130) (.c 50)), true), ((.le (.c 0) (.v 140)), true), ((.le (.v 140) (.c 40)), true), ((.le (.c 0) (.v 150)), true), ((.le (.v 150) (.c 255)), true), ((.lt (.v 130) (.v 140)), true), ((.le (.c 0) (.v 160)), true), ((.le (.v 160) (.c 64)), true)]
noncomputable def lp1x4 : Vl := .out 0 [.b (.c false) (.c true), .a (.v 0) (.v 0) (.v 1) 1, .i (.v 1) (.v 1)] [((.lt lp1e20 (.v 150)), true), ((.lt lp1e19 (.c 0)), false), ((.eq lp1e15 (.c 2)), true), ((.eq lp1e15 (.c 0)), false), ((.lt (.v 160) lp1e9), false), ((.le (.c 0) (.v 30)), true), ((.le (.v 30) (.c 255)), true), ((.le (.c 0) (.v 12)), true), ((.le (.v 12) (.c 4294967295)), true), ((.le (.c 0) (.v 1)), true), ((.le (.v 1) (.v 3)), true), ((.ap 16 (.a (.v 0) (.i (.v 1) .nil))), true), ((.le (.c 0) (.v 130)), true), ((.le (.v 130) (.c 50)), true), ((.le (.c 0) (.v 140)), true), ((.le (.v 140) (.c 40)), true), ((.le (.c 0) (.v 150)), true), ((.le (.v 150) (.c 255)), true), ((.lt (.v 130) (.v 140)), true), ((.le (.c 0) (.v 160)), true), ((.le (.v 160) (.c 64)), true)]
noncomputable def lp1x5 : Vl := .out 0 [.b (.c false) (.c true), .a (.v 0) (.v 0) (.v 1) 1, .i (.v 1) (.v 1)] [((.and (.not (.eq lp1e21 (.c 0))) (.not (.eq lp1e22 (.c 0)))), true), ((.lt lp1e20 (.v 150)), false), ((.lt lp1e19 (.c 0)), false), ((.eq lp1e15 (.c 2)), true), ((.eq lp1e15 (.c 0)), false), ((.lt (.v 160) lp1e9), false), ((.le (.c 0) (.v 30)), true), ((.le (.v 30) (.c 255)), true), ((.le (.c 0) (.v 12)), true), ((.le (.v 12) (.c 4294967295)), true), ((.le (.c 0) (.v 1)), true), ((.le (.v 1) (.v 3)), true), ((.ap 16 (.a (.v 0) (.i (.v 1) .nil))), true), ((.le (.c 0) (.v 130)), true), ((.le (.v 130) (.c 50)), true), ((.le (.c 0) (.v 140)), true), ((.le (.v 140) (.c 40)), true), ((.le (.c 0) (.v 150)), true), ((.le (.v 150) (.c 255)), true), ((.lt (.v 130) (.v 140)), true), ((.le (.c 0) (.v 160)), true), ((.le (.v 160) (.c 64)), true)]
noncomputable def lp1x6 : Vl := .go 0 [(130, lp1e10)] [] [] [((.and (.not (.eq lp1e21 (.c 0))) (.not (.eq lp1e22 (.c 0)))), false), ((.lt lp1e20 (.v 150)), false), ((.lt lp1e19 (.c 0)), false), ((.eq lp1e15 (.c 2)), true), ((.eq lp1e15 (.c 0)), false), ((.lt (.v 160) lp1e9), false), ((.le (.c 0) (.v 30)), true), ((.le (.v 30) (.c 255)), true), ((.le (.c 0) (.v 12)), true), ((.le (.v 12) (.c 4294967295)), true), ((.le (.c 0) (.v 1)), true), ((.le (.v 1) (.v 3)), true), ((.ap 16 (.a (.v 0) (.i (.v 1) .nil))), true), ((.le (.c 0) (.v 130)), true), ((.le (.v 130) (.c 50)), true), ((.le (.c 0) (.v 140)), true), ((.le (.v 140) (.c 40)), true), ((.le (.c 0) (.v 150)), true), ((.le (.v 150) (.c 255)), true), ((.lt (.v 130) (.v 140)), true), ((.le (.c 0) (.v 160)), true), ((.le (.v 160) (.c 64)), true)] (.exit .normal) (.loop (loopB (prm3 Tryd.prog).P 3 9) :: loopK (prm3 Tryd.prog).P 3 9)
noncomputable def lp1x7 : Vl := .go 0 [(130, lp1e10)] [] [] [((.eq lp1e15 (.c 2)), false), ((.eq lp1e15 (.c 0)), false), ((.lt (.v 160) lp1e9), false), ((.le (.c 0) (.v 30)), true), ((.le (.v 30) (.c 255)), true), ((.le (.c 0) (.v 12)), true), ((.le (.v 12) (.c 4294967295)), true), ((.le (.c 0) (.v 1)), true), ((.le (.v 1) (.v 3)), true), ((.ap 16 (.a (.v 0) (.i (.v 1) .nil))), true), ((.le (.c 0) (.v 130)), true), ((.le (.v 130) (.c 50)), true), ((.le (.c 0) (.v 140)), true), ((.le (.v 140) (.c 40)), true), ((.le (.c 0) (.v 150)), true), ((.le (.v 150) (.c 255)), true), ((.lt (.v 130) (.v 140)), true), ((.le (.c 0) (.v 160)), true), ((.le (.v 160) (.c 64)), true)] (.exit .normal) (.loop (loopB (prm3 Tryd.prog).P 3 9) :: loopK (prm3 Tryd.prog).P 3 9)
noncomputable def lp1ls : List Vl := [lp1x0, lp1x1, lp1x2, lp1x3, lp1x4, lp1x5, lp1x6, lp1x7]
theorem lp1run : (run (prm3 Tryd.prog) 900 (ptD (pts3 Tryd.prog) 1 3)).map (vOf (prm3 Tryd.prog) ct3 (pts3 Tryd.prog)) = lp1ls := by kernel_rfl
-- 8 ways; terms: lp1e0, lp1e1, lp1e2, lp1e3, lp1e4, lp1e5, lp1e6, lp1e7, lp1e8, lp1e9, lp1e10, lp1e11, lp1e12, lp1e13, lp1e14, lp1e15, lp1e16, lp1e17, lp1e18, lp1e19, lp1e20, lp1e21, lp1e22
theorem t30 : Tryd.prog.underlying 30 = some (.map 29 4) := by kernel_rfl
theorem t29 : Tryd.prog.underlying 29 = some (.int .u64) := by kernel_rfl
theorem z4 : (Tryd.prog.info? 4).bind (·.zero) = some (.bool false) := by kernel_rfl
theorem prm3_ok (E : Env) (hE : E.fn = fns) : PrmOk E (prm3 Tryd.prog) where
  bt := by
    intro b hb
    rw [hE]
    have hb' : b ∈ btR ++ btN (idxE 3 0) idxP ++ [btMake 30 7, btPut 30 7 .u64 0, btGet 30 7 .u64 0] := hb
    rcases List.mem_append.1 hb' with h | h
    · rcases List.mem_append.1 h with h | h
      · exact btR_ok b h
      · exact btN_ok (idxE_ok 3 0) b h
    · simp only [List.mem_cons, List.not_mem_nil, or_false] at h
      rcases h with rfl | rfl | rfl
      · exact btMake_ok mok7
      · exact btPut_ok mok7 t30 t29
      · exact btGet_ok mok7 t30 t29 (zero_run z4)
  ct := by
    intro c hc
    have : c = ct5 ∨ c = ct6 ∨ c = ct7 := by simpa [prm3] using hc
    rw [hE]
    rcases this with rfl | rfl | rfl
    · exact ct5_ok
    · exact ct6_ok
    · exact ct7_ok
  mix := Checked.mixed Tryd.checked
  okf := okf_call
  body := okf_body
  mts := by intro x hx; cases hx
  dfr := by intro x hx; cases hx
  dfk := by intro x hx; cases hx
structure I3 (E0 E : Env) (i b n : Nat) : Prop where
  ag : AgP 100 E0 E
  S : SOk (E.a 105) n
  nn : E.i 140 = n
  n40 : n ≤ 40
  r : 0 ≤ E.i 12
  i130 : E.i 130 = i
  le : i ≤ n
  p0 : 0 ≤ E.i 150
  p1 : E.i 150 ≤ (stq (E.a 105) (E.i 12) i).act
  m : ∀ z : Nat, E.a 131 z ≠ 0 → (z : Int) < (stq (E.a 105) (E.i 12) b).act
theorem I3.up {E0 E E' : Env} {i b n : Nat} (h : I3 E0 E i b n) (H : AgE 1000 E E') : I3 E0 E' i b n where
  ag := h.ag.trans (by omega) H.p
  S := by rw [H.a 105 (by decide)]; exact h.S
  nn := by rw [H.i 140 (by decide)]; exact h.nn
  n40 := h.n40
  r := by rw [H.i 12 (by decide)]; exact h.r
  i130 := by rw [H.i 130 (by decide)]; exact h.i130
  le := h.le
  p0 := by rw [H.i 150 (by decide)]; exact h.p0
  p1 := by rw [H.i 150 (by decide), H.i 12 (by decide), H.a 105 (by decide)]; exact h.p1
  m := by rw [H.a 131 (by decide), H.i 12 (by decide), H.a 105 (by decide)]; exact h.m
theorem I3.facts {E0 E : Env} {i b n : Nat} (h : I3 E0 E i b n) (hF0 : Facts E0 ct3.pre) : Facts E fx3 := by
  have k1 := h.nn; have k2 := h.n40; have k3 := h.i130; have k4 := h.le; have k5 := h.p0; have k6 := h.p1
  have k7 := (stq_ok h.S h.r i k4).c1
  refine facts_append (facts_append (facts_append (h.ag.facts (by decide) hF0) ?_) ?_) ?_
  · show Facts E [((.le (.c 0) (.v 130)), true), ((.le (.v 130) (.c 50)), true)]
    simp only [facts_cons, facts_nil, le_t, d_c, d_v, and_true]; omega
  · show Facts E [((.le (.c 0) (.v 140)), true), ((.le (.v 140) (.c 40)), true)]
    simp only [facts_cons, facts_nil, le_t, d_c, d_v, and_true]; omega
  · show Facts E [((.le (.c 0) (.v 150)), true), ((.le (.v 150) (.c 255)), true)]
    simp only [facts_cons, facts_nil, le_t, d_c, d_v, and_true]; omega
theorem c20E {E : Env} (hE : E.fn = fns) : (AE.ap 20 slT).den E = colA (E.a 105) (E.i 12) := by
  funext t; simp only [AE.den, slT, SL.den, SE.den, hE]; rfl
theorem c21E {E : Env} (hE : E.fn = fns) : (AE.ap 21 slT).den E = colL (E.a 105) (E.i 12) := by
  funext t; simp only [AE.den, slT, SL.den, SE.den, hE]; rfl
theorem c22E {E : Env} (hE : E.fn = fns) : (AE.ap 22 slT).den E = colC (E.a 105) (E.i 12) := by
  funext t; simp only [AE.den, slT, SL.den, SE.den, hE]; rfl
theorem out3 {E0 E : Env} (H : AgP 100 E0 E) : ∀ q ∈ ([.a (.v 0) (.v 0) (.v 1) 1, .i (.v 1) (.v 1)] : List Eqn), q.ok E E0 := by
  have r1 : (Eqn.a (.v 0) (.v 0) (.v 1) 1).ok E E0 := Eqn.a_ag H _ _ _ rfl
  (simp only [List.forall_mem_cons, List.not_mem_nil, false_imp_iff, implies_true, and_true]; (repeat' apply And.intro); all_goals (first | exact Eqn.i_ag (n := 100) (by assumption) _ rfl | exact Eqn.b_ag (n := 100) (by assumption) _ rfl | assumption))
def mu3 (j : Nat) (E : Env) : Nat := if j = 0 then (E.i 140 - E.i 130).toNat * 200 + 100 else (E.i 140 - E.i 130).toNat * 200 + (64 - E.i 160).toNat
theorem ct3_ok : CtOk Tryd.prog fns ct3 := by
  refine ct_of_ptsX (p := prm3 Tryd.prog) (pts := pts3 Tryd.prog) (n := 900) (c0 := enterD (prm3 Tryd.prog) ct3) (fun E hE => prm3_ok E hE) rfl (by intro q hq; cases hq) Tryd.func3 (by kernel_rfl) ?_
    (fun E0 j E => ∃ i n, I3 E0 E i (i + j) n ∧ (j = 1 → i < n ∧ 0 ≤ E.i 160 ∧ E.i 160 ≤ ((retAt (E.a 105) (E.i 12) i).length : Int))) (fun E0 j E => mu3 j E) lals larun ?_ ?_
  · intro t ht
    simp only [pts3, List.mem_cons, List.not_mem_nil, or_false] at ht
    rcases ht with rfl | rfl
    · exact ⟨by kernel_rfl, by decide⟩
    · exact ⟨by kernel_rfl, by decide⟩
  · intro E0 hE0 hF
    refine ⟨fun a ha => (by cases ha; intro q hq; cases hq), fun E H1 _ x hx => ?_⟩
    have hE : E.fn = fns := H1.fn.trans hE0
    have H : AgP 100 E0 E := AgP.trans (by omega) (AgP.refl 100 E0) H1.p
    have hr0 := hF ((.le (.c 0) (.v 12)), true) (by simp [ct3, bd])
    rw [le_t, d_c, d_v] at hr0
    have r12 := H.i 12 (by decide)
    unfold lals at hx
    simp only [List.mem_cons, List.not_mem_nil, or_false] at hx
    rcases hx with rfl | rfl
    · intro hf
      exact ⟨rfl, E0, by rw [show ct3.nx = 0 from rfl, Env.upd_zero]; exact out3 H, fun a' ha' => (by cases ha'; intro q hq; cases hq)⟩
    · intro hf
      have h1 := hf (SB.le (.c 0) (.v 1000), true) (by simp)
      have h2 := hf (SB.le (.v 1000) (.c 40), true) (by simp)
      have h3 := hf (SB.ap 3 (.a (.v 1000) (.i (.v 1000) .nil)), true) (by simp)
      rw [le_t, d_c, d_v] at h1
      rw [le_t, d_c, d_v] at h2
      have e3 : (SB.ap 3 (.a (.v 1000) (.i (.v 1000) .nil))).den E = @decide (SOk (E.a 1000) (E.i 1000).toNat) (Classical.propDecidable _) := by
        simp only [SB.den, SL.den, SE.den, hE]; rfl
      rw [e3] at h3
      have hS := @of_decide_eq_true _ (Classical.propDecidable _) h3
      obtain ⟨n, hn⟩ : ∃ n : Nat, E.i 1000 = n := ⟨(E.i 1000).toNat, by omega⟩
      rw [hn, Int.toNat_natCast] at hS
      refine ⟨⟨_, rfl, .inl ⟨rfl, rfl⟩⟩, fun o => ⟨⟨0, n, { ag := H.put o, S := hS, nn := hn, n40 := (by omega), r := (by show 0 ≤ E.i 12; omega), i130 := rfl, le := Nat.zero_le _, p0 := Int.le_refl 0, p1 := Int.le_refl 0, m := fun z hz => absurd ?_ hz }, fun h => by cases h⟩, fun b hb => by cases hb⟩⟩
      show lae0.den E z = 0
      exact congrFun (AE.z_den E) z
  · intro k t ht
    have hk : k = 0 ∨ k = 1 := by
      have := (List.getElem?_eq_some_iff.1 ht).1
      simp [pts3] at this; omega
    rcases hk with rfl | rfl
    · refine ⟨lp0ls, by rw [← ptD_some ht ct3.g]; exact lp0run, fun E0 E1 hE0 hE1 hF0 ⟨i, n, hI, _⟩ => ?_⟩
      refine ⟨?_, fun E H1 _ x hx => ?_⟩
      · obtain rfl := Option.some.inj ht
        exact hI.facts hF0
      · have hE : E.fn = fns := H1.fn.trans hE1
        have hJ := hI.up H1
        have hi := hJ.i130; have hnn := hJ.nn; have hle := hJ.le
        have m1 : E1.i 130 = E.i 130 := (H1.i 130 (by decide)).symm
        have m2 : E1.i 140 = E.i 140 := (H1.i 140 (by decide)).symm
        have hlt : (SB.lt (.v 130) (.v 140)).den E = true → i < n := fun h => by simp only [lt_t, d_v] at h; omega
        have x2 : lp0e2.den E = ((retAt (E.a 105) (E.i 12) i).length : Int) := by
          show (AE.ap 21 slT).den E (E.i 130 * 3).toNat = _
          rw [c21E hE, hi, show ((i : Int) * 3).toNat = i * 3 + 0 by omega, colL_at _ _ _ _ (by decide)]; rfl
        unfold lp0ls at hx
        simp only [List.mem_cons, List.not_mem_nil, or_false] at hx
        have hout : ∃ V, (∀ q ∈ ([.a (.v 0) (.v 0) (.v 1) 1, .i (.v 1) (.v 1)] : List Eqn), q.ok E (E0.upd xb ct3.nx V)) ∧ ∀ a', ct3.alts[0]? = some a' → Facts (E0.upd xb ct3.nx V) a'.xf :=
          ⟨E0, by rw [show ct3.nx = 0 from rfl, Env.upd_zero]; exact out3 hJ.ag, fun a' ha' => (by cases ha'; intro q hq; cases hq)⟩
        rcases hx with rfl | rfl | rfl | rfl
        · intro hf
          have hl := hlt (hf (SB.lt (.v 130) (.v 140), true) (by simp))
          obtain ⟨s1, _, _, _⟩ := step_law hJ.S hJ.r hl
          refine ⟨⟨_, rfl, .inl ⟨rfl, rfl⟩⟩, fun o => ⟨⟨i, n, { ag := hJ.ag.put o, S := hJ.S, nn := hJ.nn, n40 := hJ.n40, r := hJ.r, i130 := hJ.i130, le := hJ.le, p0 := hJ.p0, p1 := hJ.p1, m := fun z hz => Int.lt_of_lt_of_le (hJ.m z hz) s1 }, fun _ => ⟨hl, Int.le_refl 0, Int.natCast_nonneg _⟩⟩, fun b hb => ?_⟩⟩
          obtain rfl := Option.some.inj hb
          show (E.i 140 - E.i 130).toNat * 200 + (64 - (0 : Int)).toNat < (E1.i 140 - E1.i 130).toNat * 200 + 100
          rw [m1, m2]
          have : ((64 : Int) - 0).toNat = 64 := rfl
          omega
        · intro hf
          have h1 := hf (SB.le (.c 0) lp0e2, false) (by simp)
          rw [le_f, x2, d_c] at h1
          omega
        · intro hf
          exact ⟨rfl, hout⟩
        · intro hf
          exact ⟨rfl, hout⟩
    · refine ⟨lp1ls, by rw [← ptD_some ht ct3.g]; exact lp1run, fun E0 E1 hE0 hE1 hF0 ⟨i, n, hI, hI2⟩ => ?_⟩
      obtain ⟨hin, j0, j1⟩ := hI2 rfl
      have hlen : (retAt (E1.a 105) (E1.i 12) i).length ≤ 64 := by
        have := col_len (n := n) hI.S hI.r (by have := hI.n40; omega) (k := i * 3 + 0) (by omega)
        rw [colL_at _ _ _ _ (by decide), Int.toNat_natCast] at this
        exact this
      refine ⟨?_, fun E H1 _ x hx => ?_⟩
      · obtain rfl := Option.some.inj ht
        refine facts_append (facts_append (hI.facts hF0) ?_) ?_
        · show Facts E1 [((.lt (.v 130) (.v 140)), true)]
          have := hI.i130; have := hI.nn
          simp only [facts_cons, facts_nil, lt_t, d_c, d_v, and_true]; omega
        · show Facts E1 [((.le (.c 0) (.v 160)), true), ((.le (.v 160) (.c 64)), true)]
          simp only [facts_cons, facts_nil, le_t, d_c, d_v, and_true]; omega
      · have hE : E.fn = fns := H1.fn.trans hE1
        have hJ := hI.up H1
        have hi := hJ.i130; have hnn := hJ.nn; have hle := hJ.le
        have m1 : E1.i 130 = E.i 130 := (H1.i 130 (by decide)).symm
        have m2 : E1.i 140 = E.i 140 := (H1.i 140 (by decide)).symm
        have m3 : E1.i 160 = E.i 160 := (H1.i 160 (by decide)).symm
        have m4 : E1.a 105 = E.a 105 := (H1.a 105 (by decide)).symm
        have m5 : E1.i 12 = E.i 12 := (H1.i 12 (by decide)).symm
        rw [m4, m5] at hlen
        rw [m3] at j0
        rw [m3, m4, m5] at j1
        obtain ⟨j, hj⟩ : ∃ j : Nat, E.i 160 = j := ⟨(E.i 160).toNat, by omega⟩
        obtain ⟨s1, s2, s3, s4⟩ := step_law hJ.S hJ.r hin
        have hQ1 := stq_ok hJ.S hJ.r (i + 1) (by omega)
        have c0 := hQ1.c0; have c1 := hQ1.c1
        have x9 : lp1e9.den E = ((retAt (E.a 105) (E.i 12) i).length : Int) := by
          show (AE.ap 21 slT).den E (E.i 130 * 3).toNat = _
          rw [c21E hE, hi, show ((i : Int) * 3).toNat = i * 3 + 0 by omega, colL_at _ _ _ _ (by decide)]; rfl
        have x5 : j < (retAt (E.a 105) (E.i 12) i).length → lp1e5.den E = arr (retAt (E.a 105) (E.i 12) i) j := fun h => by
          show (AE.ap 22 slT).den E (E.i 130 * 3 * 64 + E.i 160).toNat = _
          rw [c22E hE, hi, hj, show ((i : Int) * 3 * 64 + (j : Int)).toNat = (i * 3 + 0) * 64 + j by omega, colC_at _ _ _ _ _ (by decide) (by omega)]; rfl
        have x15 : lp1e15.den E = E.a 105 (i * 5) := by
          show E.a 105 (E.i 130 * 5).toNat = _
          rw [hi, show ((i : Int) * 5).toNat = i * 5 by omega]
        have x13 : lp1e13.den E = E.a 105 (i * 5 + 2) := by
          show E.a 105 (E.i 130 * 5 + 2).toNat = _
          rw [hi, show ((i : Int) * 5 + 2).toNat = i * 5 + 2 by omega]
        have x19 : lp1e19.den E = nowAt (E.a 105) (E.i 12) i := by
          show (AE.ap 20 slT).den E (E.i 130 * 6 + 1).toNat = _
          rw [c20E hE, hi, show ((i : Int) * 6 + 1).toNat = i * 6 + 1 by omega]
          unfold colA
          rw [if_neg (by omega), if_pos (by omega), show (i * 6 + 1) / 6 = i by omega]
        have x20 : E.a 105 (i * 5) = 2 → lp1e20.den E = (stq (E.a 105) (E.i 12) (i + 1)).act := fun h => by
          show IntKind.u64.wrap (lp1e19.den E) = _
          rw [x19, s4 h]
          exact u64_id c0 (by omega)
        have hout : ∃ V, (∀ q ∈ ([.a (.v 0) (.v 0) (.v 1) 1, .i (.v 1) (.v 1)] : List Eqn), q.ok E (E0.upd xb ct3.nx V)) ∧ ∀ a', ct3.alts[0]? = some a' → Facts (E0.upd xb ct3.nx V) a'.xf :=
          ⟨E0, by rw [show ct3.nx = 0 from rfl, Env.upd_zero]; exact out3 hJ.ag, fun a' ha' => (by cases ha'; intro q hq; cases hq)⟩
        have hmu : ∀ b, some (mu3 1 E1) = some b → (E.i 140 - (E.i 130 + 1)).toNat * 200 + 100 < b := fun b hb => by
          obtain rfl := Option.some.inj hb
          show _ < (E1.i 140 - E1.i 130).toNat * 200 + (64 - E1.i 160).toNat
          rw [m1, m2, m3]
          omega
        unfold lp1ls at hx
        simp only [List.mem_cons, List.not_mem_nil, or_false] at hx
        rcases hx with rfl | rfl | rfl | rfl | rfl | rfl | rfl | rfl
        · intro hf
          have h2 := hf (SB.lt (.v 160) lp1e9, true) (by simp)
          rw [lt_t, d_v, x9] at h2
          have hjl : j < (retAt (E.a 105) (E.i 12) i).length := by omega
          have hx5 := x5 hjl
          have hb := s3 _ (arr_mem hjl)
          refine ⟨⟨_, rfl, .inr ⟨rfl, rfl⟩⟩, fun o => ⟨⟨i, n, { ag := hJ.ag.put o, S := hJ.S, nn := hJ.nn, n40 := hJ.n40, r := hJ.r, i130 := hJ.i130, le := hJ.le, p0 := hJ.p0, p1 := hJ.p1, m := fun z hz => ?_ }, fun _ => ⟨hin, (by show 0 ≤ E.i 160 + 1; omega), (by show E.i 160 + 1 ≤ ((retAt (E.a 105) (E.i 12) i).length : Int); omega)⟩⟩, fun b hb => ?_⟩⟩
          · have hz' : (if z = (lp1e5.den E).toNat then (1 : Int) else E.a 131 z) ≠ 0 := by
              have : lp1e7.den E z = if z = (lp1e5.den E).toNat then (1 : Int) else E.a 131 z := by
                unfold lp1e7; simp only [AE.den, SE.den]
              rw [← this]; exact hz
            by_cases hzz : z = (lp1e5.den E).toNat
            · rw [hx5] at hzz
              show (z : Int) < (stq (E.a 105) (E.i 12) (i + 1)).act
              omega
            · rw [if_neg hzz] at hz'
              exact hJ.m z hz'
          · obtain rfl := Option.some.inj hb
            show (E.i 140 - E.i 130).toNat * 200 + (64 - (E.i 160 + 1)).toNat < (E1.i 140 - E1.i 130).toNat * 200 + (64 - E1.i 160).toNat
            rw [m1, m2, m3]
            omega
        · intro hf
          have h2 := hf (SB.lt (.v 160) lp1e9, true) (by simp)
          rw [lt_t, d_v, x9] at h2
          have hjl : j < (retAt (E.a 105) (E.i 12) i).length := by omega
          have hb := s3 _ (arr_mem hjl)
          have h1 := hf (SB.le (.c 0) lp1e5, false) (by simp)
          rw [le_f, x5 hjl, d_c] at h1
          omega
        · intro hf
          have h1 := hf (SB.eq lp1e15 (.c 0), true) (by simp)
          rw [eq_t, x15, d_c] at h1
          have hp := s2 h1
          have hp0 := hJ.p0; have hp1 := hJ.p1
          have hm : lp1e14.den E = imx (E.i 150) (E.a 105 (i * 5 + 2)) := by rw [← x13]; rfl
          obtain ⟨_, _, ⟨q0, _⟩, _⟩ := hJ.S i hin
          refine ⟨⟨_, rfl, .inr ⟨rfl, rfl⟩⟩, fun o => ⟨⟨i + 1, n, { ag := hJ.ag.put o, S := hJ.S, nn := hJ.nn, n40 := hJ.n40, r := hJ.r, i130 := (by show E.i 130 + 1 = _; omega), le := hin, p0 := ?_, p1 := ?_, m := hJ.m }, fun h => by cases h⟩, fun b hb => hmu b hb⟩⟩
          · show 0 ≤ lp1e14.den E
            rw [hm]; unfold imx; split <;> omega
          · show lp1e14.den E ≤ (stq (E.a 105) (E.i 12) (i + 1)).act
            rw [hm]; unfold imx; split <;> omega
        · intro hf
          have h2 := hf (SB.eq lp1e15 (.c 2), true) (by simp)
          rw [eq_t, x15, d_c] at h2
          have h1 := hf (SB.lt lp1e19 (.c 0), true) (by simp)
          rw [lt_t, x19, s4 h2, d_c] at h1
          omega
        · intro hf
          have h2 := hf (SB.eq lp1e15 (.c 2), true) (by simp)
          rw [eq_t, x15, d_c] at h2
          have h1 := hf (SB.lt lp1e20 (.v 150), true) (by simp)
          rw [lt_t, x20 h2, d_v] at h1
          have := hJ.p1
          omega
        · intro hf
          have h2 := hf (SB.eq lp1e15 (.c 2), true) (by simp)
          rw [eq_t, x15, d_c] at h2
          have h1 := hf (SB.and (.not (.eq lp1e21 (.c 0))) (.not (.eq lp1e22 (.c 0))), true) (by simp)
          have h21 : E.a 131 (lp1e20.den E).toNat ≠ 0 := fun h0 => by
            have e21 : lp1e21.den E = 0 := h0
            have : (SB.and (.not (.eq lp1e21 (.c 0))) (.not (.eq lp1e22 (.c 0)))).den E = false := by
              simp only [SB.den, e21, SE.den]; simp
            rw [this] at h1; cases h1
          have := hJ.m _ h21
          rw [x20 h2] at this
          omega
        · intro hf
          refine ⟨⟨_, rfl, .inr ⟨rfl, rfl⟩⟩, fun o => ⟨⟨i + 1, n, { ag := hJ.ag.put o, S := hJ.S, nn := hJ.nn, n40 := hJ.n40, r := hJ.r, i130 := (by show E.i 130 + 1 = _; omega), le := hin, p0 := hJ.p0, p1 := (by have := hJ.p1; show E.i 150 ≤ (stq (E.a 105) (E.i 12) (i + 1)).act; omega), m := hJ.m }, fun h => by cases h⟩, fun b hb => hmu b hb⟩⟩
        · intro hf
          refine ⟨⟨_, rfl, .inr ⟨rfl, rfl⟩⟩, fun o => ⟨⟨i + 1, n, { ag := hJ.ag.put o, S := hJ.S, nn := hJ.nn, n40 := hJ.n40, r := hJ.r, i130 := (by show E.i 130 + 1 = _; omega), le := hin, p0 := hJ.p0, p1 := (by have := hJ.p1; show E.i 150 ≤ (stq (E.a 105) (E.i 12) (i + 1)).act; omega), m := hJ.m }, fun h => by cases h⟩, fun b hb => hmu b hb⟩⟩
end Go.Proofs.YtjanndmmhjnpcaaDoor
