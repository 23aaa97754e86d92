/- A packet that is new is told in time: the law keeps its contract. -/
import Derived.Test.YtgianhjmjiiadaaQmAg
import Derived.Test.YtgianhjmjiiadaaQmAh
import Derived.Test.YtgianhjmjiiadaaQmAd
import Derived.Test.YtgianhjmjiiadaaQmR
import Derived.KernelRfl
set_option autoImplicit true
set_option relaxedAutoImplicit true
set_option linter.unusedVariables false
set_option linter.unusedSimpArgs false
set_option maxRecDepth 100000
set_option maxHeartbeats 4000000
namespace Go.Proofs.Ytgianhjmjiiadaa
open Go Go.Sy Go.RowKit
noncomputable def h5e0 : SE := .mul (.v 1000) (.c 6)
noncomputable def h5e1 : SE := .add (.c 100) (.v 2)
noncomputable def h5e2 : AE := .tl (.v 1000) h5e0 (.i (.c 0) (.i (.c 0) (.i h5e1 (.i (.c 2000000000) (.b (.c true) (.b (.c false) (.i (.c 1) (.i (.c 0) (.i (.c 0) (.i (.c 2025000000) (.b (.c false) (.b (.c true) (.i (.c 3) (.i (.c 0) (.i h5e1 (.i (.c 2025000000) (.b (.c false) (.b (.c false) .nil))))))))))))))))))
noncomputable def h5e3 : AE := .ap 20 (.a h5e2 .nil)
noncomputable def h5e4 : SE := .add (.v 1000) (.c 3)
noncomputable def h5e5 : SE := .sub h5e4 (.c 2)
noncomputable def h5e6 : SE := .mul h5e5 (.c 8)
noncomputable def h5e7 : SE := .rd h5e3 h5e6
noncomputable def h5e8 : SE := .sub h5e4 (.c 1)
noncomputable def h5e9 : SE := .mul h5e8 (.c 8)
noncomputable def h5e10 : SE := .rd h5e3 h5e9
noncomputable def h5e11 : SE := .add h5e6 (.c 3)
noncomputable def h5e12 : SE := .rd h5e3 h5e11
noncomputable def h5e13 : AE := .ap 22 (.a h5e2 .nil)
noncomputable def h5e14 : SE := .mul h5e5 (.c 128)
noncomputable def h5e15 : SE := .add h5e14 (.c 1)
noncomputable def h5e16 : SE := .rd h5e13 h5e15
noncomputable def h5e17 : AE := .ap 21 (.a h5e2 .nil)
noncomputable def h5e18 : SE := .rd h5e17 h5e5
noncomputable def h5x0 : Vl := .out 0 [.a (.v 0) (.v 0) (.v 1) 1, .i (.v 1) (.v 1)] [((.lt (.c 2147483647) (.v 1)), true), ((.le (.c 0) (.v 1)), true), ((.le (.v 1) (.v 3)), true), ((.ap 16 (.a (.v 0) (.i (.v 1) .nil))), true), ((.le (.c 0) (.v 2)), true), ((.le (.v 2) (.c 255)), true)]
noncomputable def h5x1 : Vl := .out 0 [.b (.c false) (.c true), .a (.v 0) (.v 0) (.v 1) 1, .i (.v 1) (.v 1)] [((.eq h5e7 (.c 0)), true), ((.lt h5e5 h5e4), true), ((.ap 10 (.a h5e2 (.i h5e4 .nil))), true), ((.le (.c 0) (.v 1000)), true), ((.le (.v 1000) (.c 60)), true), ((.ap 11 (.a (.v 1000) (.i (.v 1000) (.i (.c 2) .nil)))), true), ((.lt (.c 2147483647) (.v 1)), false), ((.le (.c 0) (.v 1)), true), ((.le (.v 1) (.v 3)), true), ((.ap 16 (.a (.v 0) (.i (.v 1) .nil))), true), ((.le (.c 0) (.v 2)), true), ((.le (.v 2) (.c 255)), true)]
noncomputable def h5x2 : Vl := .out 0 [.b (.c false) (.c true), .a (.v 0) (.v 0) (.v 1) 1, .i (.v 1) (.v 1)] [((.eq h5e10 (.c 0)), true), ((.lt h5e8 h5e4), true), ((.eq h5e12 (.c 25000000)), true), ((.eq h5e16 h5e1), true), ((.lt (.c 0) h5e18), true), ((.le (.c 0) h5e18), true), ((.eq h5e7 (.c 0)), false), ((.lt h5e5 h5e4), true), ((.ap 10 (.a h5e2 (.i h5e4 .nil))), true), ((.le (.c 0) (.v 1000)), true), ((.le (.v 1000) (.c 60)), true), ((.ap 11 (.a (.v 1000) (.i (.v 1000) (.i (.c 2) .nil)))), true), ((.lt (.c 2147483647) (.v 1)), false), ((.le (.c 0) (.v 1)), true), ((.le (.v 1) (.v 3)), true), ((.ap 16 (.a (.v 0) (.i (.v 1) .nil))), true), ((.le (.c 0) (.v 2)), true), ((.le (.v 2) (.c 255)), true)]
noncomputable def h5x3 : Vl := .out 0 [.a (.v 0) (.v 0) (.v 1) 1, .i (.v 1) (.v 1)] [((.eq h5e10 (.c 0)), false), ((.lt h5e8 h5e4), true), ((.eq h5e12 (.c 25000000)), true), ((.eq h5e16 h5e1), true), ((.lt (.c 0) h5e18), true), ((.le (.c 0) h5e18), true), ((.eq h5e7 (.c 0)), false), ((.lt h5e5 h5e4), true), ((.ap 10 (.a h5e2 (.i h5e4 .nil))), true), ((.le (.c 0) (.v 1000)), true), ((.le (.v 1000) (.c 60)), true), ((.ap 11 (.a (.v 1000) (.i (.v 1000) (.i (.c 2) .nil)))), true), ((.lt (.c 2147483647) (.v 1)), false), ((.le (.c 0) (.v 1)), true), ((.le (.v 1) (.v 3)), true), ((.ap 16 (.a (.v 0) (.i (.v 1) .nil))), true), ((.le (.c 0) (.v 2)), true), ((.le (.v 2) (.c 255)), true)]
noncomputable def h5x4 : Vl := .dead [((.lt h5e8 h5e4), false), ((.eq h5e12 (.c 25000000)), true), ((.eq h5e16 h5e1), true), ((.lt (.c 0) h5e18), true), ((.le (.c 0) h5e18), true), ((.eq h5e7 (.c 0)), false), ((.lt h5e5 h5e4), true), ((.ap 10 (.a h5e2 (.i h5e4 .nil))), true), ((.le (.c 0) (.v 1000)), true), ((.le (.v 1000) (.c 60)), true), ((.ap 11 (.a (.v 1000) (.i (.v 1000) (.i (.c 2) .nil)))), true), ((.lt (.c 2147483647) (.v 1)), false), ((.le (.c 0) (.v 1)), true), ((.le (.v 1) (.v 3)), true), ((.ap 16 (.a (.v 0) (.i (.v 1) .nil))), true), ((.le (.c 0) (.v 2)), true), ((.le (.v 2) (.c 255)), true)]
noncomputable def h5x5 : Vl := .out 0 [.b (.c false) (.c true), .a (.v 0) (.v 0) (.v 1) 1, .i (.v 1) (.v 1)] [((.eq h5e12 (.c 25000000)), false), ((.eq h5e16 h5e1), true), ((.lt (.c 0) h5e18), true), ((.le (.c 0) h5e18), true), ((.eq h5e7 (.c 0)), false), ((.lt h5e5 h5e4), true), ((.ap 10 (.a h5e2 (.i h5e4 .nil))), true), ((.le (.c 0) (.v 1000)), true), ((.le (.v 1000) (.c 60)), true), ((.ap 11 (.a (.v 1000) (.i (.v 1000) (.i (.c 2) .nil)))), true), ((.lt (.c 2147483647) (.v 1)), false), ((.le (.c 0) (.v 1)), true), ((.le (.v 1) (.v 3)), true), ((.ap 16 (.a (.v 0) (.i (.v 1) .nil))), true), ((.le (.c 0) (.v 2)), true), ((.le (.v 2) (.c 255)), true)]
noncomputable def h5x6 : Vl := .out 0 [.b (.c false) (.c true), .a (.v 0) (.v 0) (.v 1) 1, .i (.v 1) (.v 1)] [((.eq h5e16 h5e1), false), ((.lt (.c 0) h5e18), true), ((.le (.c 0) h5e18), true), ((.eq h5e7 (.c 0)), false), ((.lt h5e5 h5e4), true), ((.ap 10 (.a h5e2 (.i h5e4 .nil))), true), ((.le (.c 0) (.v 1000)), true), ((.le (.v 1000) (.c 60)), true), ((.ap 11 (.a (.v 1000) (.i (.v 1000) (.i (.c 2) .nil)))), true), ((.lt (.c 2147483647) (.v 1)), false), ((.le (.c 0) (.v 1)), true), ((.le (.v 1) (.v 3)), true), ((.ap 16 (.a (.v 0) (.i (.v 1) .nil))), true), ((.le (.c 0) (.v 2)), true), ((.le (.v 2) (.c 255)), true)]
noncomputable def h5x7 : Vl := .out 0 [.b (.c false) (.c true), .a (.v 0) (.v 0) (.v 1) 1, .i (.v 1) (.v 1)] [((.lt (.c 0) h5e18), false), ((.le (.c 0) h5e18), true), ((.eq h5e7 (.c 0)), false), ((.lt h5e5 h5e4), true), ((.ap 10 (.a h5e2 (.i h5e4 .nil))), true), ((.le (.c 0) (.v 1000)), true), ((.le (.v 1000) (.c 60)), true), ((.ap 11 (.a (.v 1000) (.i (.v 1000) (.i (.c 2) .nil)))), true), ((.lt (.c 2147483647) (.v 1)), false), ((.le (.c 0) (.v 1)), true), ((.le (.v 1) (.v 3)), true), ((.ap 16 (.a (.v 0) (.i (.v 1) .nil))), true), ((.le (.c 0) (.v 2)), true), ((.le (.v 2) (.c 255)), true)]
noncomputable def h5x8 : Vl := .dead [((.le (.c 0) h5e18), false), ((.eq h5e7 (.c 0)), false), ((.lt h5e5 h5e4), true), ((.ap 10 (.a h5e2 (.i h5e4 .nil))), true), ((.le (.c 0) (.v 1000)), true), ((.le (.v 1000) (.c 60)), true), ((.ap 11 (.a (.v 1000) (.i (.v 1000) (.i (.c 2) .nil)))), true), ((.lt (.c 2147483647) (.v 1)), false), ((.le (.c 0) (.v 1)), true), ((.le (.v 1) (.v 3)), true), ((.ap 16 (.a (.v 0) (.i (.v 1) .nil))), true), ((.le (.c 0) (.v 2)), true), ((.le (.v 2) (.c 255)), true)]
noncomputable def h5x9 : Vl := .dead [((.lt h5e5 h5e4), false), ((.ap 10 (.a h5e2 (.i h5e4 .nil))), true), ((.le (.c 0) (.v 1000)), true), ((.le (.v 1000) (.c 60)), true), ((.ap 11 (.a (.v 1000) (.i (.v 1000) (.i (.c 2) .nil)))), true), ((.lt (.c 2147483647) (.v 1)), false), ((.le (.c 0) (.v 1)), true), ((.le (.v 1) (.v 3)), true), ((.ap 16 (.a (.v 0) (.i (.v 1) .nil))), true), ((.le (.c 0) (.v 2)), true), ((.le (.v 2) (.c 255)), true)]
noncomputable def h5x10 : Vl := .dead [((.ap 10 (.a h5e2 (.i h5e4 .nil))), false), ((.le (.c 0) (.v 1000)), true), ((.le (.v 1000) (.c 60)), true), ((.ap 11 (.a (.v 1000) (.i (.v 1000) (.i (.c 2) .nil)))), true), ((.lt (.c 2147483647) (.v 1)), false), ((.le (.c 0) (.v 1)), true), ((.le (.v 1) (.v 3)), true), ((.ap 16 (.a (.v 0) (.i (.v 1) .nil))), true), ((.le (.c 0) (.v 2)), true), ((.le (.v 2) (.c 255)), true)]
noncomputable def h5ls : List Vl := [h5x0, h5x1, h5x2, h5x3, h5x4, h5x5, h5x6, h5x7, h5x8, h5x9, h5x10]
theorem h5run : (run (prm5 Try.prog) 3000 (enterD (prm5 Try.prog) ct5)).map (vOf (prm5 Try.prog) ct5 []) = h5ls := by kernel_rfl
noncomputable def h5ne0 : SE := .add (.c 100) (.v 2)
noncomputable def h5ne1 : AE := .tl (.v 0) (.c 0) (.i (.c 0) (.i (.c 0) (.i h5ne0 (.i (.c 2000000000) (.b (.c true) (.b (.c false) (.i (.c 1) (.i (.c 0) (.i (.c 0) (.i (.c 2025000000) (.b (.c false) (.b (.c true) (.i (.c 3) (.i (.c 0) (.i h5ne0 (.i (.c 2025000000) (.b (.c false) (.b (.c false) .nil))))))))))))))))))
noncomputable def h5ne2 : AE := .ap 20 (.a h5ne1 .nil)
noncomputable def h5ne3 : SE := .rd h5ne2 (.c 8)
noncomputable def h5ne4 : SE := .rd h5ne2 (.c 16)
noncomputable def h5ne5 : SE := .rd h5ne2 (.c 11)
noncomputable def h5ne6 : AE := .ap 22 (.a h5ne1 .nil)
noncomputable def h5ne7 : SE := .rd h5ne6 (.c 129)
noncomputable def h5ne8 : AE := .ap 21 (.a h5ne1 .nil)
noncomputable def h5ne9 : SE := .rd h5ne8 (.c 1)
noncomputable def h5nx0 : Vl := .out 0 [.b (.c false) (.c true)] [((.eq h5ne3 (.c 0)), true), ((.ap 10 (.a h5ne1 (.i (.c 3) .nil))), true), ((.le (.c 0) (.v 2)), true), ((.le (.v 2) (.c 255)), true)]
noncomputable def h5nx1 : Vl := .out 0 [.b (.c false) (.c true)] [((.eq h5ne4 (.c 0)), true), ((.eq h5ne5 (.c 25000000)), true), ((.eq h5ne7 h5ne0), true), ((.lt (.c 0) h5ne9), true), ((.le (.c 0) h5ne9), true), ((.eq h5ne3 (.c 0)), false), ((.ap 10 (.a h5ne1 (.i (.c 3) .nil))), true), ((.le (.c 0) (.v 2)), true), ((.le (.v 2) (.c 255)), true)]
noncomputable def h5nx2 : Vl := .out 0 [] [((.eq h5ne4 (.c 0)), false), ((.eq h5ne5 (.c 25000000)), true), ((.eq h5ne7 h5ne0), true), ((.lt (.c 0) h5ne9), true), ((.le (.c 0) h5ne9), true), ((.eq h5ne3 (.c 0)), false), ((.ap 10 (.a h5ne1 (.i (.c 3) .nil))), true), ((.le (.c 0) (.v 2)), true), ((.le (.v 2) (.c 255)), true)]
noncomputable def h5nx3 : Vl := .out 0 [.b (.c false) (.c true)] [((.eq h5ne5 (.c 25000000)), false), ((.eq h5ne7 h5ne0), true), ((.lt (.c 0) h5ne9), true), ((.le (.c 0) h5ne9), true), ((.eq h5ne3 (.c 0)), false), ((.ap 10 (.a h5ne1 (.i (.c 3) .nil))), true), ((.le (.c 0) (.v 2)), true), ((.le (.v 2) (.c 255)), true)]
noncomputable def h5nx4 : Vl := .out 0 [.b (.c false) (.c true)] [((.eq h5ne7 h5ne0), false), ((.lt (.c 0) h5ne9), true), ((.le (.c 0) h5ne9), true), ((.eq h5ne3 (.c 0)), false), ((.ap 10 (.a h5ne1 (.i (.c 3) .nil))), true), ((.le (.c 0) (.v 2)), true), ((.le (.v 2) (.c 255)), true)]
noncomputable def h5nx5 : Vl := .out 0 [.b (.c false) (.c true)] [((.lt (.c 0) h5ne9), false), ((.le (.c 0) h5ne9), true), ((.eq h5ne3 (.c 0)), false), ((.ap 10 (.a h5ne1 (.i (.c 3) .nil))), true), ((.le (.c 0) (.v 2)), true), ((.le (.v 2) (.c 255)), true)]
noncomputable def h5nx6 : Vl := .dead [((.le (.c 0) h5ne9), false), ((.eq h5ne3 (.c 0)), false), ((.ap 10 (.a h5ne1 (.i (.c 3) .nil))), true), ((.le (.c 0) (.v 2)), true), ((.le (.v 2) (.c 255)), true)]
noncomputable def h5nx7 : Vl := .dead [((.ap 10 (.a h5ne1 (.i (.c 3) .nil))), false), ((.le (.c 0) (.v 2)), true), ((.le (.v 2) (.c 255)), true)]
noncomputable def h5nls : List Vl := [h5nx0, h5nx1, h5nx2, h5nx3, h5nx4, h5nx5, h5nx6, h5nx7]
theorem h5nrun : (run (prm5n Try.prog) 3000 (enterD (prm5n Try.prog) ct5n)).map (vOf (prm5n Try.prog) ct5n []) = h5nls := by kernel_rfl
theorem btL_ok : ∀ b ∈ [btRecLen 29 1000, btRecIx 29 1000 rq, btRecLd 4 1000 rq 0, btRecAll 1000 rq] ++ btN, BtOk Try.prog fns b := by
  intro b hb
  rcases List.mem_append.1 hb with hb | hb
  · simp only [List.mem_cons, List.not_mem_nil, or_false] at hb
    rcases hb with rfl | rfl | rfl | rfl
    · exact btRecLen_ok rokq t29
    · exact btRecIx_ok rokq t29 s35
    · exact btRecLd_ok rokq (by decide) (by kernel_rfl)
    · exact btRecAll_ok rokq (by kernel_rfl) s35
  · exact btN_ok b hb
theorem prm5_ok (E : Env) (hE : E.fn = fns) : PrmOk E (prm5 Try.prog) := prm_ok E hE (by
    intro c hc
    have : c = ct6 ∨ c = ct8 ∨ c = ct9 := by simpa [prm5] using hc
    rcases this with rfl | rfl | rfl
    · exact ct6_ok
    · exact ct8_ok
    · exact ct9_ok) btL_ok
theorem prm5n_ok (E : Env) (hE : E.fn = fns) : PrmOk E (prm5n Try.prog) := prm_ok E hE (by
    intro c hc
    have : c = ct8 ∨ c = ct9 := by simpa [prm5n] using hc
    rcases this with rfl | rfl
    · exact ct8_ok
    · exact ct9_ok) btL_ok
theorem stok_of {E : Env} (hE : E.fn = fns) (h : (SB.ap 11 (.a (.v 1000) (.i (.v 1000) (.i (.c 2) .nil)))).den E = true) : STok (E.a 1000) (E.i 1000).toNat 2 := by
  have e' : E.fn.g 11 [.a ((AE.v 1000).den E), .i (E.i 1000), .i 2] = true := h
  rw [hE, show (AE.v 1000).den E = E.a 1000 from by funext t; simp only [AE.den]] at e'
  have e2 : @decide (STok (E.a 1000) (E.i 1000).toNat 2) (Classical.propDecidable _) = true := e'
  exact @of_decide_eq_true _ (Classical.propDecidable _) e2
theorem ag5 {E0 E : Env} (H : AgE 1000 E0 E) : (Eqn.a (.v 0) (.v 0) (.v 1) 1).ok E E0 ∧ (Eqn.i (.v 1) (.v 1)).ok E E0 := ⟨Eqn.a_ag H.p _ _ _ rfl, Eqn.i_ag H.p _ rfl⟩
theorem upd0 {E0 : Env} {n : Nat} (V : Env) (hn : n = 0) : E0.upd xb n V = E0 := by subst hn; exact Env.upd_zero _ _ _
theorem wi_tl {E : Env} {a : Nat} {N : SE} {n : Nat} {p : SE} {pn : Int} (hN : (N.den E).toNat = n * 6) (hp : p.den E = pn) :
    Wi (E.a a) ((AE.tl (.v a) N (.i (.c 0) (.i (.c 0) (.i p (.i (.c 2000000000) (.b (.c true) (.b (.c false) (.i (.c 1) (.i (.c 0) (.i (.c 0) (.i (.c 2025000000) (.b (.c false) (.b (.c true) (.i (.c 3) (.i (.c 0) (.i p (.i (.c 2025000000) (.b (.c false) (.b (.c false) .nil))))))))))))))))))).den E) n pn := by
  have h := fun t => tlE (a := a) (E := E) (l := (.i (.c 0) (.i (.c 0) (.i p (.i (.c 2000000000) (.b (.c true) (.b (.c false) (.i (.c 1) (.i (.c 0) (.i (.c 0) (.i (.c 2025000000) (.b (.c false) (.b (.c true) (.i (.c 3) (.i (.c 0) (.i p (.i (.c 2025000000) (.b (.c false) (.b (.c false) .nil))))))))))))))))))) hN t
  have c : ∀ u j, u = n * 6 + j → (AE.tl (.v a) N (.i (.c 0) (.i (.c 0) (.i p (.i (.c 2000000000) (.b (.c true) (.b (.c false) (.i (.c 1) (.i (.c 0) (.i (.c 0) (.i (.c 2025000000) (.b (.c false) (.b (.c true) (.i (.c 3) (.i (.c 0) (.i p (.i (.c 2025000000) (.b (.c false) (.b (.c false) .nil))))))))))))))))))).den E u = (SL.i (.c 0) (.i (.c 0) (.i p (.i (.c 2000000000) (.b (.c true) (.b (.c false) (.i (.c 1) (.i (.c 0) (.i (.c 0) (.i (.c 2025000000) (.b (.c false) (.b (.c true) (.i (.c 3) (.i (.c 0) (.i p (.i (.c 2025000000) (.b (.c false) (.b (.c false) .nil)))))))))))))))))).nth E j := fun u j hu => by
    rw [h, if_neg (by omega), show u - n * 6 = j by omega]
  refine ⟨fun t ht => by rw [h, if_pos ht], (c _ 0 rfl), (c _ 1 rfl), (c _ 2 rfl).trans hp, c _ 3 rfl, ?_, c _ 6 (by omega), c _ 7 (by omega), c _ 8 (by omega), c _ 9 (by omega), ?_, c _ 12 (by omega), c _ 13 (by omega), (c _ 14 (by omega)).trans hp, c _ 15 (by omega)⟩
  · unfold elA; rw [c _ 4 rfl]; rfl
  · unfold onA; rw [c _ 11 (by omega)]; rfl
theorem ct5_ok : CtOk Try.prog fns ct5 := by
  refine ct_of_ptsX (p := prm5 Try.prog) (pts := []) (n := 3000) (c0 := enterD (prm5 Try.prog) ct5) (fun E hE => prm5_ok E hE) rfl (by intro q hq; cases hq) Try.func5 (by kernel_rfl) (by intro t ht; cases ht) (fun _ _ _ => True) (fun _ _ _ => 0) h5ls h5run ?_ (by intro i t ht; cases ht)
  intro E0 hE0 hF0
  refine ⟨fun a ha => (by cases ha; intro q hq; cases hq), fun E H1 _ x hx => ?_⟩
  have hE : E.fn = fns := H1.fn.trans hE0
  have h20 : 0 ≤ E.i 2 := by rw [H1.i 2 (by decide)]; exact of_decide_eq_true (hF0 (.le (.c 0) (.v 2), true) (by simp [ct5, codeF, bd]))
  have h21 : E.i 2 ≤ 255 := by rw [H1.i 2 (by decide)]; exact of_decide_eq_true (hF0 (.le (.v 2) (.c 255), true) (by simp [ct5, codeF, bd]))
  have hp : h5e1.den E = 100 + E.i 2 := rfl
  have cl : ∀ (k : Nat) (f : (Nat → Int) → Nat → Int) (j : SE) (u : Nat), (∀ l, fns.a k [.a l] = f l) → (j.den E).toNat = u → (SE.rd (.ap k (.a h5e2 .nil)) j).den E = f (h5e2.den E) u := fun k f j u hf hu => by
    show (AE.ap k (.a h5e2 .nil)).den E (j.den E).toNat = _
    rw [hu]
    simp only [AE.den, SL.den, hE, hf]
  have main : ∀ (n : Nat), E.i 1000 = n → n ≤ 60 → STok (E.a 1000) (E.i 1000).toNat 2 → SOk (h5e2.den E) (n + 3) ∧ h5e7.den E = 1 ∧ h5e12.den E = 25000000 ∧ 1 ≤ h5e18.den E ∧ h5e16.den E = 100 + E.i 2 ∧ h5e10.den E = 1 := fun n hn hn60 hT => by
    rw [hn, Int.toNat_natCast] at hT
    have w : Wi (E.a 1000) (h5e2.den E) n (100 + E.i 2) := wi_tl (a := 1000) (N := .mul (.v 1000) (.c 6)) (n := n) (by show (E.i 1000 * 6).toNat = _; omega) hp
    obtain ⟨s1, s2, s3, s3b, s4, s5⟩ := w.says hT hn60 (by omega) (by omega)
    have hS := w.ok hT hn60 (by omega) (by omega)
    have x2 : (SE.sub (.add (.v 1000) (.c 3)) (.c 2)).den E = (n : Int) + 1 := by show E.i 1000 + 3 - 2 = _; omega
    have x1 : (SE.sub (.add (.v 1000) (.c 3)) (.c 1)).den E = (n : Int) + 2 := by show E.i 1000 + 3 - 1 = _; omega
    have D1 : h5e7.den E = colA (h5e2.den E) ((n + 1) * 8) := cl 20 colA (.mul (.sub (.add (.v 1000) (.c 3)) (.c 2)) (.c 8)) _ (fun l => rfl) (by show ((SE.sub (.add (.v 1000) (.c 3)) (.c 2)).den E * 8).toNat = _; omega)
    have D2 : h5e12.den E = colA (h5e2.den E) ((n + 1) * 8 + 3) := cl 20 colA (.add (.mul (.sub (.add (.v 1000) (.c 3)) (.c 2)) (.c 8)) (.c 3)) _ (fun l => rfl) (by show ((SE.sub (.add (.v 1000) (.c 3)) (.c 2)).den E * 8 + 3).toNat = _; omega)
    have D3 : h5e18.den E = colL (h5e2.den E) (n + 1) := cl 21 colL (.sub (.add (.v 1000) (.c 3)) (.c 2)) _ (fun l => rfl) (by omega)
    have D4 : h5e16.den E = colC (h5e2.den E) ((n + 1) * 128 + 1) := cl 22 colC (.add (.mul (.sub (.add (.v 1000) (.c 3)) (.c 2)) (.c 128)) (.c 1)) _ (fun l => rfl) (by show ((SE.sub (.add (.v 1000) (.c 3)) (.c 2)).den E * 128 + 1).toNat = _; omega)
    have D5 : h5e10.den E = colA (h5e2.den E) ((n + 2) * 8) := cl 20 colA (.mul (.sub (.add (.v 1000) (.c 3)) (.c 1)) (.c 8)) _ (fun l => rfl) (by show ((SE.sub (.add (.v 1000) (.c 3)) (.c 1)).den E * 8).toNat = _; omega)
    exact ⟨hS, by rw [D1]; exact s1, by rw [D2]; exact s2, by rw [D3]; exact s3, by rw [D4]; exact s4, by rw [D5]; exact s5⟩
  unfold h5ls at hx
  simp only [List.mem_cons, List.not_mem_nil, or_false] at hx
  rcases hx with rfl | rfl | rfl | rfl | rfl | rfl | rfl | rfl | rfl | rfl | rfl
  · intro hf
    refine ⟨rfl, E0, ?_, fun a' ha' => (by cases ha'; intro q hq; cases hq)⟩
    rw [show E0.upd xb ct5.nx E0 = E0 from upd0 (n := ct5.nx) E0 rfl]
    simp only [List.forall_mem_cons, List.not_mem_nil, false_imp_iff, implies_true, and_true]
    exact ag5 H1
  · intro hf
    have n0 : 0 ≤ E.i 1000 := le_t.1 (fat hf 3 rfl)
    have n1 : E.i 1000 ≤ 60 := le_t.1 (fat hf 4 rfl)
    obtain ⟨n, hn⟩ : ∃ n : Nat, E.i 1000 = n := ⟨(E.i 1000).toNat, by omega⟩
    obtain ⟨hS, s1, s2, s3, s4, s5⟩ := main n hn (by omega) (stok_of hE (fat hf 5 rfl))
    exfalso
    have h1 := eq_t.1 (fat hf 0 rfl)
    rw [s1, d_c] at h1
    first | omega | exact h1 rfl | (simp at h1)
  · intro hf
    have n0 : 0 ≤ E.i 1000 := le_t.1 (fat hf 9 rfl)
    have n1 : E.i 1000 ≤ 60 := le_t.1 (fat hf 10 rfl)
    obtain ⟨n, hn⟩ : ∃ n : Nat, E.i 1000 = n := ⟨(E.i 1000).toNat, by omega⟩
    obtain ⟨hS, s1, s2, s3, s4, s5⟩ := main n hn (by omega) (stok_of hE (fat hf 11 rfl))
    exfalso
    have h1 := eq_t.1 (fat hf 0 rfl)
    rw [s5, d_c] at h1
    first | omega | exact h1 rfl | (simp at h1)
  · intro hf
    have n0 : 0 ≤ E.i 1000 := le_t.1 (fat hf 9 rfl)
    have n1 : E.i 1000 ≤ 60 := le_t.1 (fat hf 10 rfl)
    obtain ⟨n, hn⟩ : ∃ n : Nat, E.i 1000 = n := ⟨(E.i 1000).toNat, by omega⟩
    obtain ⟨hS, s1, s2, s3, s4, s5⟩ := main n hn (by omega) (stok_of hE (fat hf 11 rfl))
    refine ⟨rfl, E0, ?_, fun a' ha' => (by cases ha'; intro q hq; cases hq)⟩
    rw [show E0.upd xb ct5.nx E0 = E0 from upd0 (n := ct5.nx) E0 rfl]
    simp only [List.forall_mem_cons, List.not_mem_nil, false_imp_iff, implies_true, and_true]
    exact ag5 H1
  · intro hf
    have n0 : 0 ≤ E.i 1000 := le_t.1 (fat hf 8 rfl)
    have n1 : E.i 1000 ≤ 60 := le_t.1 (fat hf 9 rfl)
    obtain ⟨n, hn⟩ : ∃ n : Nat, E.i 1000 = n := ⟨(E.i 1000).toNat, by omega⟩
    obtain ⟨hS, s1, s2, s3, s4, s5⟩ := main n hn (by omega) (stok_of hE (fat hf 10 rfl))
    exfalso
    have h1 := lt_f.1 (fat hf 0 rfl)
    have h4 : (SE.add (.v 1000) (.c 3)).den E = E.i 1000 + 3 := rfl
    have h5 : (SE.sub (.add (.v 1000) (.c 3)) (.c 2)).den E = E.i 1000 + 3 - 2 := rfl
    have h6 : (SE.sub (.add (.v 1000) (.c 3)) (.c 1)).den E = E.i 1000 + 3 - 1 := rfl
    change h5e4.den E ≤ h5e8.den E at h1
    rw [show h5e4.den E = E.i 1000 + 3 from rfl] at h1
    have h7 : h5e8.den E = (SE.sub (.add (.v 1000) (.c 3)) (.c 1)).den E := rfl
    have h8 : h5e8.den E = h5e8.den E := rfl
    rw [h7] at h1
    first | omega | exact h1 rfl | (simp at h1)
  · intro hf
    have n0 : 0 ≤ E.i 1000 := le_t.1 (fat hf 7 rfl)
    have n1 : E.i 1000 ≤ 60 := le_t.1 (fat hf 8 rfl)
    obtain ⟨n, hn⟩ : ∃ n : Nat, E.i 1000 = n := ⟨(E.i 1000).toNat, by omega⟩
    obtain ⟨hS, s1, s2, s3, s4, s5⟩ := main n hn (by omega) (stok_of hE (fat hf 9 rfl))
    exfalso
    have h1 := eq_f.1 (fat hf 0 rfl)
    rw [s2, d_c] at h1
    first | omega | exact h1 rfl | (simp at h1)
  · intro hf
    have n0 : 0 ≤ E.i 1000 := le_t.1 (fat hf 6 rfl)
    have n1 : E.i 1000 ≤ 60 := le_t.1 (fat hf 7 rfl)
    obtain ⟨n, hn⟩ : ∃ n : Nat, E.i 1000 = n := ⟨(E.i 1000).toNat, by omega⟩
    obtain ⟨hS, s1, s2, s3, s4, s5⟩ := main n hn (by omega) (stok_of hE (fat hf 8 rfl))
    exfalso
    have h1 := eq_f.1 (fat hf 0 rfl)
    rw [s4, hp] at h1
    first | omega | exact h1 rfl | (simp at h1)
  · intro hf
    have n0 : 0 ≤ E.i 1000 := le_t.1 (fat hf 5 rfl)
    have n1 : E.i 1000 ≤ 60 := le_t.1 (fat hf 6 rfl)
    obtain ⟨n, hn⟩ : ∃ n : Nat, E.i 1000 = n := ⟨(E.i 1000).toNat, by omega⟩
    obtain ⟨hS, s1, s2, s3, s4, s5⟩ := main n hn (by omega) (stok_of hE (fat hf 7 rfl))
    exfalso
    have h1 := lt_f.1 (fat hf 0 rfl)
    rw [d_c] at h1
    first | omega | exact h1 rfl | (simp at h1)
  · intro hf
    have n0 : 0 ≤ E.i 1000 := le_t.1 (fat hf 4 rfl)
    have n1 : E.i 1000 ≤ 60 := le_t.1 (fat hf 5 rfl)
    obtain ⟨n, hn⟩ : ∃ n : Nat, E.i 1000 = n := ⟨(E.i 1000).toNat, by omega⟩
    obtain ⟨hS, s1, s2, s3, s4, s5⟩ := main n hn (by omega) (stok_of hE (fat hf 6 rfl))
    exfalso
    have h1 := le_f.1 (fat hf 0 rfl)
    rw [d_c] at h1
    first | omega | exact h1 rfl | (simp at h1)
  · intro hf
    have n0 : 0 ≤ E.i 1000 := le_t.1 (fat hf 2 rfl)
    have n1 : E.i 1000 ≤ 60 := le_t.1 (fat hf 3 rfl)
    obtain ⟨n, hn⟩ : ∃ n : Nat, E.i 1000 = n := ⟨(E.i 1000).toNat, by omega⟩
    obtain ⟨hS, s1, s2, s3, s4, s5⟩ := main n hn (by omega) (stok_of hE (fat hf 4 rfl))
    exfalso
    have h1 := lt_f.1 (fat hf 0 rfl)
    have h4 : (SE.add (.v 1000) (.c 3)).den E = E.i 1000 + 3 := rfl
    have h5 : (SE.sub (.add (.v 1000) (.c 3)) (.c 2)).den E = E.i 1000 + 3 - 2 := rfl
    have h6 : (SE.sub (.add (.v 1000) (.c 3)) (.c 1)).den E = E.i 1000 + 3 - 1 := rfl
    change h5e4.den E ≤ h5e5.den E at h1
    rw [show h5e4.den E = E.i 1000 + 3 from rfl] at h1
    have h7 : h5e5.den E = (SE.sub (.add (.v 1000) (.c 3)) (.c 2)).den E := rfl
    have h8 : h5e5.den E = h5e5.den E := rfl
    rw [h7] at h1
    first | omega | exact h1 rfl | (simp at h1)
  · intro hf
    have n0 : 0 ≤ E.i 1000 := le_t.1 (fat hf 1 rfl)
    have n1 : E.i 1000 ≤ 60 := le_t.1 (fat hf 2 rfl)
    obtain ⟨n, hn⟩ : ∃ n : Nat, E.i 1000 = n := ⟨(E.i 1000).toNat, by omega⟩
    obtain ⟨hS, s1, s2, s3, s4, s5⟩ := main n hn (by omega) (stok_of hE (fat hf 3 rfl))
    exfalso
    have h1 : (SB.ap 10 (.a h5e2 (.i (.add (.v 1000) (.c 3)) .nil))).den E = false := fat hf 0 rfl
    have h2 : E.fn.g 10 [.a (h5e2.den E), .i (E.i 1000 + 3)] = false := h1
    rw [hE] at h2
    have h3 : @decide (SOk (h5e2.den E) (E.i 1000 + 3).toNat) (Classical.propDecidable _) = false := h2
    rw [show (E.i 1000 + 3).toNat = n + 3 by omega, @decide_eq_true _ (Classical.propDecidable _) hS] at h3
    cases h3
theorem ct5n_ok : CtOk Try.prog fns ct5n := by
  refine ct_of_ptsX (p := prm5n Try.prog) (pts := []) (n := 3000) (c0 := enterD (prm5n Try.prog) ct5n) (fun E hE => prm5n_ok E hE) rfl (by intro q hq; cases hq) Try.func5 (by kernel_rfl) (by intro t ht; cases ht) (fun _ _ _ => True) (fun _ _ _ => 0) h5nls h5nrun ?_ (by intro i t ht; cases ht)
  intro E0 hE0 hF0
  refine ⟨fun a ha => (by cases ha; intro q hq; cases hq), fun E H1 _ x hx => ?_⟩
  have hE : E.fn = fns := H1.fn.trans hE0
  have h20 : 0 ≤ E.i 2 := by rw [H1.i 2 (by decide)]; exact of_decide_eq_true (hF0 (.le (.c 0) (.v 2), true) (by simp [ct5n, codeF, bd]))
  have h21 : E.i 2 ≤ 255 := by rw [H1.i 2 (by decide)]; exact of_decide_eq_true (hF0 (.le (.v 2) (.c 255), true) (by simp [ct5n, codeF, bd]))
  have hp : h5ne0.den E = 100 + E.i 2 := rfl
  have w : Wi (E.a 0) (h5ne1.den E) 0 (100 + E.i 2) := wi_tl (a := 0) (N := .c 0) (n := 0) rfl hp
  have hT : STok (E.a 0) 0 2 := STok.zero _ _
  have says := w.says hT (by omega) (by omega) (by omega)
  have hS := w.ok hT (by omega) (by omega) (by omega)
  have cl : ∀ (k : Nat) (f : (Nat → Int) → Nat → Int) (j : SE) (u : Nat), (∀ l, fns.a k [.a l] = f l) → (j.den E).toNat = u → (SE.rd (.ap k (.a h5ne1 .nil)) j).den E = f (h5ne1.den E) u := fun k f j u hf hu => by
    show (AE.ap k (.a h5ne1 .nil)).den E (j.den E).toNat = _
    rw [hu]
    simp only [AE.den, SL.den, hE, hf]
  have D1 : h5ne3.den E = colA (h5ne1.den E) 8 := cl 20 colA (.c 8) 8 (fun l => rfl) rfl
  have D2 : h5ne5.den E = colA (h5ne1.den E) 11 := cl 20 colA (.c 11) 11 (fun l => rfl) rfl
  have D3 : h5ne9.den E = colL (h5ne1.den E) 1 := cl 21 colL (.c 1) 1 (fun l => rfl) rfl
  have D4 : h5ne7.den E = colC (h5ne1.den E) 129 := cl 22 colC (.c 129) 129 (fun l => rfl) rfl
  have D5 : h5ne4.den E = colA (h5ne1.den E) 16 := cl 20 colA (.c 16) 16 (fun l => rfl) rfl
  obtain ⟨s1, s2, s3, s3b, s4, s5⟩ := says
  simp only [Nat.zero_add, Nat.one_mul, Nat.reduceAdd, Nat.reduceMul] at s1 s2 s3 s3b s4 s5
  unfold h5nls at hx
  simp only [List.mem_cons, List.not_mem_nil, or_false] at hx
  rcases hx with rfl | rfl | rfl | rfl | rfl | rfl | rfl | rfl
  · intro hf
    exfalso
    have h1 := eq_t.1 (fat hf 0 rfl)
    rw [D1, s1, d_c] at h1
    first | omega | exact h1 rfl | (simp at h1)
  · intro hf
    exfalso
    have h1 := eq_t.1 (fat hf 0 rfl)
    rw [D5, s5, d_c] at h1
    first | omega | exact h1 rfl | (simp at h1)
  · intro hf
    refine ⟨rfl, E0, ?_, fun a' ha' => (by cases ha'; intro q hq; cases hq)⟩
    rw [show E0.upd xb ct5n.nx E0 = E0 from upd0 (n := ct5n.nx) E0 rfl]
    intro q hq; cases hq
  · intro hf
    exfalso
    have h1 := eq_f.1 (fat hf 0 rfl)
    rw [D2, s2, d_c] at h1
    first | omega | exact h1 rfl | (simp at h1)
  · intro hf
    exfalso
    have h1 := eq_f.1 (fat hf 0 rfl)
    rw [D4, s4, hp] at h1
    first | omega | exact h1 rfl | (simp at h1)
  · intro hf
    exfalso
    have h1 := lt_f.1 (fat hf 0 rfl)
    rw [d_c, D3] at h1
    first | omega | exact h1 rfl | (simp at h1)
  · intro hf
    exfalso
    have h1 := le_f.1 (fat hf 0 rfl)
    rw [d_c, D3] at h1
    first | omega | exact h1 rfl | (simp at h1)
  · intro hf
    exfalso
    have h1 : (SB.ap 10 (.a h5ne1 (.i (.c 3) .nil))).den E = false := fat hf 0 rfl
    have h2 : E.fn.g 10 [.a (h5ne1.den E), .i 3] = false := h1
    rw [hE] at h2
    have h3 : @decide (SOk (h5ne1.den E) 3) (Classical.propDecidable _) = false := h2
    rw [@decide_eq_true _ (Classical.propDecidable _) hS] at h3
    cases h3
end Go.Proofs.Ytgianhjmjiiadaa
