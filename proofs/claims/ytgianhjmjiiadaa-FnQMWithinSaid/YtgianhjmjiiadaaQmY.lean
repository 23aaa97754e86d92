/- isMissing keeps its contract. -/
import Derived.Test.YtgianhjmjiiadaaQmX
import Derived.Test.YtgianhjmjiiadaaQmV
import Derived.KernelRfl
set_option autoImplicit true
set_option relaxedAutoImplicit true
set_option linter.unusedVariables false
set_option linter.unusedSimpArgs false
set_option maxRecDepth 100000
set_option maxHeartbeats 4000000
namespace Go.Proofs.Ytgianhjmjiiadaa
open Go Go.Sy Go.RowKit
noncomputable def h41te0 : SE := .rd (.v 2) (.c 1)
noncomputable def h41tx0 : Vl := .out 0 [.b (.c false) (.ap 21 (.i (.v 36) (.i (.v 1) (.a (.v 2) (.i (.v 40) .nil))))), .i (.v 31) (.v 31), .i (.v 32) (.v 32), .i (.v 33) (.v 33), .i (.v 6) (.v 6), .b (.v 0) (.v 0), .i (.v 34) (.v 34), .i (.v 35) (.v 35), .i (.v 36) (.v 36), .b (.v 1) (.v 1), .i (.v 37) (.v 37), .i (.v 38) (.v 38), .i (.v 39) (.v 39), .a (.v 0) (.v 0) (.v 0) 2, .i (.v 0) (.v 0), .i (.v 41) (.v 41), .i (.v 42) (.v 42), .i (.v 43) (.v 43), .i (.v 44) (.v 44), .a (.v 2) (.v 2) (.v 40) 2, .i (.v 40) (.v 40)] [((.lt (.v 1) (.v 36)), true), ((.le (.c 0) (.v 1)), true), ((.le (.v 1) (.c 400)), true), ((.le (.c 1) (.v 40)), true), ((.le (.v 40) (.c 61)), true), ((.ap 2 (.a (.v 2) (.i (.v 40) .nil))), true)]
noncomputable def h41tx1 : Vl := .out 0 [.b (.not (.ap 7 (.a (.v 2) (.i (.v 40) (.i (.v 1) .nil))))) (.ap 21 (.i (.v 36) (.i (.v 1) (.a (.v 2) (.i (.v 40) .nil))))), .i (.v 31) (.v 31), .i (.v 32) (.v 32), .i (.v 33) (.v 33), .i (.v 6) (.v 6), .b (.v 0) (.v 0), .i (.v 34) (.v 34), .i (.v 35) (.v 35), .i (.v 36) (.v 36), .b (.v 1) (.v 1), .i (.v 37) (.v 37), .i (.v 38) (.v 38), .i (.v 39) (.v 39), .a (.v 0) (.v 0) (.v 0) 2, .i (.v 0) (.v 0), .i (.v 41) (.v 41), .i (.v 42) (.v 42), .i (.v 43) (.v 43), .i (.v 44) (.v 44), .a (.v 2) (.v 2) (.v 40) 2, .i (.v 40) (.v 40)] [((.lt (.v 1) h41te0), true), ((.lt (.v 1) (.v 36)), false), ((.le (.c 0) (.v 1)), true), ((.le (.v 1) (.c 400)), true), ((.le (.c 1) (.v 40)), true), ((.le (.v 40) (.c 61)), true), ((.ap 2 (.a (.v 2) (.i (.v 40) .nil))), true)]
noncomputable def h41tx2 : Vl := .out 0 [.b (.c false) (.ap 21 (.i (.v 36) (.i (.v 1) (.a (.v 2) (.i (.v 40) .nil))))), .i (.v 31) (.v 31), .i (.v 32) (.v 32), .i (.v 33) (.v 33), .i (.v 6) (.v 6), .b (.v 0) (.v 0), .i (.v 34) (.v 34), .i (.v 35) (.v 35), .i (.v 36) (.v 36), .b (.v 1) (.v 1), .i (.v 37) (.v 37), .i (.v 38) (.v 38), .i (.v 39) (.v 39), .a (.v 0) (.v 0) (.v 0) 2, .i (.v 0) (.v 0), .i (.v 41) (.v 41), .i (.v 42) (.v 42), .i (.v 43) (.v 43), .i (.v 44) (.v 44), .a (.v 2) (.v 2) (.v 40) 2, .i (.v 40) (.v 40)] [((.lt (.v 1) h41te0), false), ((.lt (.v 1) (.v 36)), false), ((.le (.c 0) (.v 1)), true), ((.le (.v 1) (.c 400)), true), ((.le (.c 1) (.v 40)), true), ((.le (.v 40) (.c 61)), true), ((.ap 2 (.a (.v 2) (.i (.v 40) .nil))), true)]
noncomputable def h41tls : List Vl := [h41tx0, h41tx1, h41tx2]
noncomputable def h54te0 : SE := .sub (.v 35) (.c 1)
noncomputable def h54te1 : SE := .ap 7 (.a (.v 0) (.i (.v 0) (.i h54te0 (.i (.v 6) .nil))))
noncomputable def h54te2 : SE := .rd (.v 2) (.c 1)
noncomputable def h54te3 : SE := .sub h54te2 (.c 1)
noncomputable def h54tx0 : Vl := .out 0 [.b (.c false) (.ap 22 (.a (.v 0) (.i (.v 0) (.i (.v 35) (.i (.v 6) (.a (.v 2) .nil)))))), .i (.v 31) (.v 31), .i (.v 32) (.v 32), .i (.v 33) (.v 33), .i (.v 6) (.v 6), .b (.v 0) (.v 0), .i (.v 34) (.v 34), .i (.v 35) (.v 35), .i (.v 36) (.v 36), .b (.v 1) (.v 1), .i (.v 37) (.v 37), .i (.v 38) (.v 38), .i (.v 39) (.v 39), .a (.v 0) (.v 0) (.v 0) 2, .i (.v 0) (.v 0), .i (.v 41) (.v 41), .i (.v 42) (.v 42), .i (.v 43) (.v 43), .i (.v 44) (.v 44), .a (.v 2) (.v 2) (.v 40) 2, .i (.v 40) (.v 40)] [((.lt (.v 35) (.c 1)), true), ((.le (.c 1) (.v 0)), true), ((.le (.v 0) (.c 61)), true), ((.le (.c 0) (.v 35)), true), ((.le (.v 35) (.c 401)), true), ((.le (.c (-1)) (.v 6)), true), ((.le (.v 6) (.c 1000)), true), ((.le (.c 1) (.v 40)), true), ((.le (.v 40) (.c 61)), true), ((.ap 1 (.a (.v 0) (.i (.v 0) .nil))), true), ((.ap 2 (.a (.v 2) (.i (.v 40) .nil))), true)]
noncomputable def h54tx1 : Vl := .out 0 [.b (.c false) (.ap 22 (.a (.v 0) (.i (.v 0) (.i (.v 35) (.i (.v 6) (.a (.v 2) .nil)))))), .i (.v 31) (.v 31), .i (.v 32) (.v 32), .i (.v 33) (.v 33), .i (.v 6) (.v 6), .b (.v 0) (.v 0), .i (.v 34) (.v 34), .i (.v 35) (.v 35), .i (.v 36) (.v 36), .b (.v 1) (.v 1), .i (.v 37) (.v 37), .i (.v 38) (.v 38), .i (.v 39) (.v 39), .a (.v 0) (.v 0) (.v 0) 2, .i (.v 0) (.v 0), .i (.v 41) (.v 41), .i (.v 42) (.v 42), .i (.v 43) (.v 43), .i (.v 44) (.v 44), .a (.v 2) (.v 2) (.v 40) 2, .i (.v 40) (.v 40)] [((.eq h54te1 (.c (-1))), true), ((.lt (.v 35) (.c 1)), false), ((.le (.c 1) (.v 0)), true), ((.le (.v 0) (.c 61)), true), ((.le (.c 0) (.v 35)), true), ((.le (.v 35) (.c 401)), true), ((.le (.c (-1)) (.v 6)), true), ((.le (.v 6) (.c 1000)), true), ((.le (.c 1) (.v 40)), true), ((.le (.v 40) (.c 61)), true), ((.ap 1 (.a (.v 0) (.i (.v 0) .nil))), true), ((.ap 2 (.a (.v 2) (.i (.v 40) .nil))), true)]
noncomputable def h54tx2 : Vl := .out 0 [.b (.c false) (.ap 22 (.a (.v 0) (.i (.v 0) (.i (.v 35) (.i (.v 6) (.a (.v 2) .nil)))))), .i (.v 31) (.v 31), .i (.v 32) (.v 32), .i (.v 33) (.v 33), .i (.v 6) (.v 6), .b (.v 0) (.v 0), .i (.v 34) (.v 34), .i (.v 35) (.v 35), .i (.v 36) (.v 36), .b (.v 1) (.v 1), .i (.v 37) (.v 37), .i (.v 38) (.v 38), .i (.v 39) (.v 39), .a (.v 0) (.v 0) (.v 0) 2, .i (.v 0) (.v 0), .i (.v 41) (.v 41), .i (.v 42) (.v 42), .i (.v 43) (.v 43), .i (.v 44) (.v 44), .a (.v 2) (.v 2) (.v 40) 2, .i (.v 40) (.v 40)] [((.lt h54te1 h54te2), true), ((.eq h54te1 (.c (-1))), false), ((.lt (.v 35) (.c 1)), false), ((.le (.c 1) (.v 0)), true), ((.le (.v 0) (.c 61)), true), ((.le (.c 0) (.v 35)), true), ((.le (.v 35) (.c 401)), true), ((.le (.c (-1)) (.v 6)), true), ((.le (.v 6) (.c 1000)), true), ((.le (.c 1) (.v 40)), true), ((.le (.v 40) (.c 61)), true), ((.ap 1 (.a (.v 0) (.i (.v 0) .nil))), true), ((.ap 2 (.a (.v 2) (.i (.v 40) .nil))), true)]
noncomputable def h54tx3 : Vl := .out 0 [.b (.lt h54te3 h54te1) (.ap 22 (.a (.v 0) (.i (.v 0) (.i (.v 35) (.i (.v 6) (.a (.v 2) .nil)))))), .i (.v 31) (.v 31), .i (.v 32) (.v 32), .i (.v 33) (.v 33), .i (.v 6) (.v 6), .b (.v 0) (.v 0), .i (.v 34) (.v 34), .i (.v 35) (.v 35), .i (.v 36) (.v 36), .b (.v 1) (.v 1), .i (.v 37) (.v 37), .i (.v 38) (.v 38), .i (.v 39) (.v 39), .a (.v 0) (.v 0) (.v 0) 2, .i (.v 0) (.v 0), .i (.v 41) (.v 41), .i (.v 42) (.v 42), .i (.v 43) (.v 43), .i (.v 44) (.v 44), .a (.v 2) (.v 2) (.v 40) 2, .i (.v 40) (.v 40)] [((.le h54te2 (.c 1000)), true), ((.le (.c 0) h54te2), true), ((.lt h54te1 h54te2), false), ((.eq h54te1 (.c (-1))), false), ((.lt (.v 35) (.c 1)), false), ((.le (.c 1) (.v 0)), true), ((.le (.v 0) (.c 61)), true), ((.le (.c 0) (.v 35)), true), ((.le (.v 35) (.c 401)), true), ((.le (.c (-1)) (.v 6)), true), ((.le (.v 6) (.c 1000)), true), ((.le (.c 1) (.v 40)), true), ((.le (.v 40) (.c 61)), true), ((.ap 1 (.a (.v 0) (.i (.v 0) .nil))), true), ((.ap 2 (.a (.v 2) (.i (.v 40) .nil))), true)]
noncomputable def h54tx4 : Vl := .dead [((.le h54te2 (.c 1000)), false), ((.le (.c 0) h54te2), true), ((.lt h54te1 h54te2), false), ((.eq h54te1 (.c (-1))), false), ((.lt (.v 35) (.c 1)), false), ((.le (.c 1) (.v 0)), true), ((.le (.v 0) (.c 61)), true), ((.le (.c 0) (.v 35)), true), ((.le (.v 35) (.c 401)), true), ((.le (.c (-1)) (.v 6)), true), ((.le (.v 6) (.c 1000)), true), ((.le (.c 1) (.v 40)), true), ((.le (.v 40) (.c 61)), true), ((.ap 1 (.a (.v 0) (.i (.v 0) .nil))), true), ((.ap 2 (.a (.v 2) (.i (.v 40) .nil))), true)]
noncomputable def h54tx5 : Vl := .dead [((.le (.c 0) h54te2), false), ((.lt h54te1 h54te2), false), ((.eq h54te1 (.c (-1))), false), ((.lt (.v 35) (.c 1)), false), ((.le (.c 1) (.v 0)), true), ((.le (.v 0) (.c 61)), true), ((.le (.c 0) (.v 35)), true), ((.le (.v 35) (.c 401)), true), ((.le (.c (-1)) (.v 6)), true), ((.le (.v 6) (.c 1000)), true), ((.le (.c 1) (.v 40)), true), ((.le (.v 40) (.c 61)), true), ((.ap 1 (.a (.v 0) (.i (.v 0) .nil))), true), ((.ap 2 (.a (.v 2) (.i (.v 40) .nil))), true)]
noncomputable def h54tls : List Vl := [h54tx0, h54tx1, h54tx2, h54tx3, h54tx4, h54tx5]
theorem prm41t_ok (E : Env) (hE : E.fn = fns) : PrmOk E (prm41t Try.prog) := prm_ok E hE (by
    intro c hc
    simp only [List.mem_cons, List.not_mem_nil, or_false] at hc
    subst hc; exact ct53_ok) (by intro b hb; cases hb)
theorem ct41t_ok : CtOk Try.prog fns ct41t := by
  refine ct_of_pts (p := prm41t Try.prog) (pts := []) (n := 900) (c0 := enterD (prm41t Try.prog) ct41t) (fun E hE => prm41t_ok E hE) rfl (by intro q hq; cases hq) Try.func41 (by kernel_rfl) (by intro t ht; cases ht) (fun _ _ _ => True) (fun _ _ _ => 0) h41tls (by kernel_rfl) ?_ (by intro i t ht; cases ht)
  intro E hE hF
  have a : 1 ≤ E.i 40 := of_decide_eq_true (hF (.le (.c 1) (.v 40), true) (by simp [ct41t, bd]))
  obtain ⟨m, hm⟩ : ∃ m : Nat, E.i 40 = m := ⟨(E.i 40).toNat, by omega⟩
  have dA := (fi_den hE hm).2
  have dM : msE.den E = (decide (E.i 36 ≤ E.i 1 ∧ E.i 1 < E.a 2 1) && !acks (E.a 2) m (E.i 1)) := by
    simp only [msE, SB.den, SL.den, AE.den, SE.den, hE]
    show (decide (E.i 36 ≤ E.i 1 ∧ E.i 1 < E.a 2 1) && !acks (fun j => E.a 2 j) (E.i 40).toNat (E.i 1)) = _
    rw [hm]; rfl
  have DR : ∀ x : SE, x = .rd (.v 2) (.c 1) → x.den E = E.a 2 1 := fun x h => by rw [h]; rfl
  have DR := DR _ (rfl : h41te0 = _)
  refine ⟨fun a ha => ?_, fun x hx => ?_⟩
  · obtain rfl := Option.some.inj ha; intro q hq; cases hq
  · unfold h41tls at hx
    simp only [List.mem_cons, List.not_mem_nil, or_false] at hx
    rcases hx with rfl | rfl | rfl
    · intro hf
      refine ⟨rfl, ?_⟩
      simp only [List.forall_mem_cons, List.not_mem_nil, false_imp_iff, implies_true, and_true, true_and, Eqn.ok]
      refine Eq.trans ?_ dM.symm
      have hd : decide (E.i 36 ≤ E.i 1 ∧ E.i 1 < E.a 2 1) = false := by
        simp only [facts_cons, facts_nil, lt_t, lt_f, d_v, DR, and_true] at hf
        simp only [decide_eq_false_iff_not]; omega
      rw [hd]; rfl
    · intro hf
      refine ⟨rfl, ?_⟩
      simp only [List.forall_mem_cons, List.not_mem_nil, false_imp_iff, implies_true, and_true, true_and, Eqn.ok]
      refine Eq.trans ?_ dM.symm
      have hd : decide (E.i 36 ≤ E.i 1 ∧ E.i 1 < E.a 2 1) = true := by
        simp only [facts_cons, facts_nil, lt_t, lt_f, d_v, DR, and_true] at hf
        simp only [decide_eq_true_eq]; omega
      rw [hd]
      show (!((b3 7 (.v 2) (.v 40) (.v 1)).den E)) = _
      rw [dA]; rfl
    · intro hf
      refine ⟨rfl, ?_⟩
      simp only [List.forall_mem_cons, List.not_mem_nil, false_imp_iff, implies_true, and_true, true_and, Eqn.ok]
      refine Eq.trans ?_ dM.symm
      have hd : decide (E.i 36 ≤ E.i 1 ∧ E.i 1 < E.a 2 1) = false := by
        simp only [facts_cons, facts_nil, lt_t, lt_f, d_v, DR, and_true] at hf
        simp only [decide_eq_false_iff_not]; omega
      rw [hd]; rfl
end Go.Proofs.Ytgianhjmjiiadaa
