/- The greatest size, and what an acknowledgement and a loss do, keep their contracts. -/
import Derived.Test.YtnffahllpagicaaMtO
import Derived.Test.YtnffahllpagicaaSyQ
import Derived.KernelRfl
set_option linter.unusedVariables false
set_option linter.unusedSimpArgs false
set_option maxRecDepth 100000
set_option maxHeartbeats 4000000
namespace Go.Proofs.Ytnffahllpagicaa
open Go Go.Sy Go.RowKit

noncomputable def ue0 : SE := .ap 0 (.i (.v 11) (.i (.v 12) (.i (.v 13) .nil)))
noncomputable def ux0 : Vl := .out 0 [.i (.v 11) ue0, .b (.v 0) (.v 0), .i (.v 4) (.v 4), .i (.v 5) (.v 5), .i (.v 6) (.v 6), .i (.v 7) (.v 7), .i (.v 8) (.v 8), .i (.v 9) (.v 9), .i (.v 10) (.v 10), .i (.v 11) (.v 11), .i (.v 12) (.v 12), .i (.v 13) (.v 13), .b (.v 1) (.v 1)] [((.eq (.v 12) (.c (-1))), true), ((.le (.c 0) (.v 11)), true), ((.le (.v 11) (.c 4096)), true), ((.le (.c (-1)) (.v 12)), true), ((.le (.v 12) (.c 4096)), true), ((.le (.c (-1)) (.v 13)), true), ((.le (.v 13) (.c 4096)), true)]
noncomputable def ux1 : Vl := .out 0 [.i (.v 12) ue0, .b (.v 0) (.v 0), .i (.v 4) (.v 4), .i (.v 5) (.v 5), .i (.v 6) (.v 6), .i (.v 7) (.v 7), .i (.v 8) (.v 8), .i (.v 9) (.v 9), .i (.v 10) (.v 10), .i (.v 11) (.v 11), .i (.v 12) (.v 12), .i (.v 13) (.v 13), .b (.v 1) (.v 1)] [((.eq (.v 13) (.c (-1))), true), ((.eq (.v 12) (.c (-1))), false), ((.le (.c 0) (.v 11)), true), ((.le (.v 11) (.c 4096)), true), ((.le (.c (-1)) (.v 12)), true), ((.le (.v 12) (.c 4096)), true), ((.le (.c (-1)) (.v 13)), true), ((.le (.v 13) (.c 4096)), true)]
noncomputable def ux2 : Vl := .out 0 [.i (.v 13) ue0, .b (.v 0) (.v 0), .i (.v 4) (.v 4), .i (.v 5) (.v 5), .i (.v 6) (.v 6), .i (.v 7) (.v 7), .i (.v 8) (.v 8), .i (.v 9) (.v 9), .i (.v 10) (.v 10), .i (.v 11) (.v 11), .i (.v 12) (.v 12), .i (.v 13) (.v 13), .b (.v 1) (.v 1)] [((.eq (.v 13) (.c (-1))), false), ((.eq (.v 12) (.c (-1))), false), ((.le (.c 0) (.v 11)), true), ((.le (.v 11) (.c 4096)), true), ((.le (.c (-1)) (.v 12)), true), ((.le (.v 12) (.c 4096)), true), ((.le (.c (-1)) (.v 13)), true), ((.le (.v 13) (.c 4096)), true)]
noncomputable def uls : List Vl := [ux0, ux1, ux2]
theorem urun : (run (prmS Try.prog) 900 (enterD (prmS Try.prog) ct35)).map (vOf (prmS Try.prog) ct35 []) = uls := by kernel_rfl
-- 3 ways; terms: ue0

noncomputable def ve0 : SE := .ap 1 (.i (.v 11) (.i (.v 12) (.i (.v 13) (.i (.v 9) .nil))))
noncomputable def ve1 : SE := .ap 2 (.i (.v 11) (.i (.v 12) (.i (.v 13) (.i (.v 9) .nil))))
noncomputable def ve2 : SE := .ap 3 (.i (.v 11) (.i (.v 12) (.i (.v 13) (.i (.v 9) .nil))))
noncomputable def vx0 : Vl := .out 0 [.b (.v 0) (.v 0), .i (.v 4) (.v 4), .i (.v 5) (.v 5), .i (.v 6) (.v 6), .i (.v 7) (.v 7), .i (.v 8) (.v 8), .i (.v 9) (.v 9), .i (.v 11) ve0, .i (.v 12) ve1, .i (.v 13) ve2] [((.lt (.v 9) (.v 11)), true), ((.le (.c 0) (.v 11)), true), ((.le (.v 11) (.c 4096)), true), ((.le (.c (-1)) (.v 12)), true), ((.le (.v 12) (.c 4096)), true), ((.le (.c (-1)) (.v 13)), true), ((.le (.v 13) (.c 4096)), true), ((.le (.c 0) (.v 9)), true), ((.le (.v 9) (.c 4096)), true)]
noncomputable def vx1 : Vl := .out 0 [.b (.v 0) (.v 0), .i (.v 4) (.v 4), .i (.v 5) (.v 5), .i (.v 6) (.v 6), .i (.v 7) (.v 7), .i (.v 8) (.v 8), .i (.v 9) (.v 9), .i (.v 12) ve0, .i (.v 13) ve1, .i (.c (-1)) ve2] [((.lt (.v 9) (.v 12)), true), ((.lt (.v 9) (.v 11)), false), ((.le (.c 0) (.v 11)), true), ((.le (.v 11) (.c 4096)), true), ((.le (.c (-1)) (.v 12)), true), ((.le (.v 12) (.c 4096)), true), ((.le (.c (-1)) (.v 13)), true), ((.le (.v 13) (.c 4096)), true), ((.le (.c 0) (.v 9)), true), ((.le (.v 9) (.c 4096)), true)]
noncomputable def vx2 : Vl := .out 0 [.b (.v 0) (.v 0), .i (.v 4) (.v 4), .i (.v 5) (.v 5), .i (.v 6) (.v 6), .i (.v 7) (.v 7), .i (.v 8) (.v 8), .i (.v 9) (.v 9), .i (.v 13) ve0, .i (.c (-1)) ve1, .i (.c (-1)) ve2] [((.lt (.v 9) (.v 13)), true), ((.lt (.v 9) (.v 12)), false), ((.lt (.v 9) (.v 11)), false), ((.le (.c 0) (.v 11)), true), ((.le (.v 11) (.c 4096)), true), ((.le (.c (-1)) (.v 12)), true), ((.le (.v 12) (.c 4096)), true), ((.le (.c (-1)) (.v 13)), true), ((.le (.v 13) (.c 4096)), true), ((.le (.c 0) (.v 9)), true), ((.le (.v 9) (.c 4096)), true)]
noncomputable def vx3 : Vl := .out 0 [.b (.v 0) (.v 0), .i (.v 4) (.v 4), .i (.v 5) (.v 5), .i (.v 6) (.v 6), .i (.v 7) (.v 7), .i (.v 8) (.v 8), .i (.v 9) (.v 9), .i (.v 11) ve0, .i (.v 12) ve1, .i (.v 13) ve2] [((.lt (.v 9) (.v 13)), false), ((.lt (.v 9) (.v 12)), false), ((.lt (.v 9) (.v 11)), false), ((.le (.c 0) (.v 11)), true), ((.le (.v 11) (.c 4096)), true), ((.le (.c (-1)) (.v 12)), true), ((.le (.v 12) (.c 4096)), true), ((.le (.c (-1)) (.v 13)), true), ((.le (.v 13) (.c 4096)), true), ((.le (.c 0) (.v 9)), true), ((.le (.v 9) (.c 4096)), true)]
noncomputable def vls : List Vl := [vx0, vx1, vx2, vx3]
theorem vrun : (run (prmS Try.prog) 900 (enterD (prmS Try.prog) ct54)).map (vOf (prmS Try.prog) ct54 []) = vls := by kernel_rfl
-- 4 ways; terms: ve0, ve1, ve2

noncomputable def we0 : SE := .ap 4 (.i (.v 11) (.i (.v 12) (.i (.v 13) (.i (.v 9) .nil))))
noncomputable def we1 : SE := .ap 5 (.i (.v 11) (.i (.v 12) (.i (.v 13) (.i (.v 9) .nil))))
noncomputable def we2 : SE := .ap 6 (.i (.v 11) (.i (.v 12) (.i (.v 13) (.i (.v 9) .nil))))
noncomputable def wx0 : Vl := .out 0 [.b (.v 0) (.v 0), .i (.v 4) (.v 4), .i (.v 5) (.v 5), .i (.v 6) (.v 6), .i (.v 7) (.v 7), .i (.v 8) (.v 8), .i (.v 10) (.v 10), .i (.v 9) we0, .i (.v 11) we1, .i (.v 12) we2] [((.lt (.v 9) (.v 11)), true), ((.le (.c 0) (.v 11)), true), ((.le (.v 11) (.c 4096)), true), ((.le (.c (-1)) (.v 12)), true), ((.le (.v 12) (.c 4096)), true), ((.le (.c (-1)) (.v 13)), true), ((.le (.v 13) (.c 4096)), true), ((.le (.c 0) (.v 9)), true), ((.le (.v 9) (.c 4096)), true)]
noncomputable def wx1 : Vl := .out 0 [.b (.v 0) (.v 0), .i (.v 4) (.v 4), .i (.v 5) (.v 5), .i (.v 6) (.v 6), .i (.v 7) (.v 7), .i (.v 8) (.v 8), .i (.v 10) (.v 10), .i (.v 11) we0, .i (.v 9) we1, .i (.v 12) we2] [((.lt (.v 9) (.v 12)), true), ((.lt (.v 9) (.v 11)), false), ((.le (.c 0) (.v 11)), true), ((.le (.v 11) (.c 4096)), true), ((.le (.c (-1)) (.v 12)), true), ((.le (.v 12) (.c 4096)), true), ((.le (.c (-1)) (.v 13)), true), ((.le (.v 13) (.c 4096)), true), ((.le (.c 0) (.v 9)), true), ((.le (.v 9) (.c 4096)), true)]
noncomputable def wx2 : Vl := .out 0 [.b (.v 0) (.v 0), .i (.v 4) (.v 4), .i (.v 5) (.v 5), .i (.v 6) (.v 6), .i (.v 7) (.v 7), .i (.v 8) (.v 8), .i (.v 10) (.v 10), .i (.v 11) we0, .i (.v 12) we1, .i (.v 9) we2] [((.lt (.v 9) (.v 13)), true), ((.lt (.v 9) (.v 12)), false), ((.lt (.v 9) (.v 11)), false), ((.le (.c 0) (.v 11)), true), ((.le (.v 11) (.c 4096)), true), ((.le (.c (-1)) (.v 12)), true), ((.le (.v 12) (.c 4096)), true), ((.le (.c (-1)) (.v 13)), true), ((.le (.v 13) (.c 4096)), true), ((.le (.c 0) (.v 9)), true), ((.le (.v 9) (.c 4096)), true)]
noncomputable def wx3 : Vl := .out 0 [.b (.v 0) (.v 0), .i (.v 4) (.v 4), .i (.v 5) (.v 5), .i (.v 6) (.v 6), .i (.v 7) (.v 7), .i (.v 8) (.v 8), .i (.v 10) (.v 10), .i (.v 11) we0, .i (.v 12) we1, .i (.v 13) we2] [((.lt (.v 9) (.v 13)), false), ((.lt (.v 9) (.v 12)), false), ((.lt (.v 9) (.v 11)), false), ((.le (.c 0) (.v 11)), true), ((.le (.v 11) (.c 4096)), true), ((.le (.c (-1)) (.v 12)), true), ((.le (.v 12) (.c 4096)), true), ((.le (.c (-1)) (.v 13)), true), ((.le (.v 13) (.c 4096)), true), ((.le (.c 0) (.v 9)), true), ((.le (.v 9) (.c 4096)), true)]
noncomputable def wls : List Vl := [wx0, wx1, wx2, wx3]
theorem wrun : (run (prmS Try.prog) 900 (enterD (prmS Try.prog) ct55)).map (vOf (prmS Try.prog) ct55 []) = wls := by kernel_rfl
-- 4 ways; terms: we0, we1, we2


theorem prmS_ok (E : Env) : PrmOk E (prmS Try.prog) where
  ct := by intro c hc; cases hc
  mix := by kernel_rfl
  okf := okf_call
  body := okf_body
  mts := by intro x hx; cases hx
  dfr := by intro x hx; cases hx
  dfk := by intro x hx; cases hx
variable {E : Env}
theorem fnsf0 (a b c : Int) : fns.f 0 [.i a, .i b, .i c] = mxL a b c := rfl
theorem fnsf1 (a b c s : Int) : fns.f 1 [.i a, .i b, .i c, .i s] = akA a b c s := rfl
theorem fnsf2 (a b c s : Int) : fns.f 2 [.i a, .i b, .i c, .i s] = akB a b c s := rfl
theorem fnsf3 (a b c s : Int) : fns.f 3 [.i a, .i b, .i c, .i s] = akC a b c s := rfl
theorem fnsf4 (a b c s : Int) : fns.f 4 [.i a, .i b, .i c, .i s] = loA a b c s := rfl
theorem fnsf5 (a b c s : Int) : fns.f 5 [.i a, .i b, .i c, .i s] = loB a b c s := rfl
theorem fnsf6 (a b c s : Int) : fns.f 6 [.i a, .i b, .i c, .i s] = loC a b c s := rfl
theorem ct35_ok : CtOk Try.prog fns ct35 := by
  refine ct_of_pts (p := prmS Try.prog) (pts := []) (n := 900) (c0 := enterD (prmS Try.prog) ct35) (fun E _ => prmS_ok E) rfl (by intro q hq; cases hq) Try.func35 (by kernel_rfl) (by intro t ht; cases ht) (fun _ _ _ => True) (fun _ _ _ => 0) uls urun ?_ (by intro i t ht; simp at ht)
  intro E hE hF
  replace hF : (0 ≤ E.i 11 ∧ E.i 11 ≤ 4096) ∧ (-1 ≤ E.i 12 ∧ E.i 12 ≤ 4096) ∧ (-1 ≤ E.i 13 ∧ E.i 13 ≤ 4096) := by
    simp only [ct35, lostB, bd, List.cons_append, List.nil_append, facts_cons, facts_nil, le_t, d_c, d_v, and_true] at hF
    omega
  refine ⟨fun a ha => ?_, fun x hx => ?_⟩
  · obtain rfl := Option.some.inj ha
    simp only [bd, l4, List.cons_append, List.nil_append, facts_cons, facts_nil, le_t, and_true, d_c, d_v, d_ap, d_sli, d_slnil, d_bv, d_bc, hE, fnsf0, fnsf1, fnsf2, fnsf3, fnsf4, fnsf5, fnsf6]
    exact mxL_ok hF.1 hF.2.1 hF.2.2
  · unfold uls at hx
    simp only [List.mem_cons, List.not_mem_nil, or_false] at hx
    rcases hx with rfl | rfl | rfl
    all_goals
      intro hf
      simp only [facts_cons, facts_nil, lt_t, lt_f, le_t, le_f, eq_t, eq_f, and_true, d_c, d_v, d_ap, d_sli, d_slnil, d_bv, d_bc, hE, fnsf0, fnsf1, fnsf2, fnsf3, fnsf4, fnsf5, fnsf6, ue0] at hf
      refine ⟨rfl, ?_⟩
      simp only [List.forall_mem_cons, List.not_mem_nil, false_imp_iff, implies_true, and_true, true_and, Eqn.ok, d_c, d_v, d_ap, d_sli, d_slnil, d_bv, d_bc, hE, fnsf0, fnsf1, fnsf2, fnsf3, fnsf4, fnsf5, fnsf6, ue0, mxL, akA, akB, akC, loA, loB, loC]
      clear hE
      (try and_intros) <;> (repeat' split) <;> omega
theorem ct54_ok : CtOk Try.prog fns ct54 := by
  refine ct_of_pts (p := prmS Try.prog) (pts := []) (n := 900) (c0 := enterD (prmS Try.prog) ct54) (fun E _ => prmS_ok E) rfl (by intro q hq; cases hq) Try.func54 (by kernel_rfl) (by intro t ht; cases ht) (fun _ _ _ => True) (fun _ _ _ => 0) vls vrun ?_ (by intro i t ht; simp at ht)
  intro E hE hF
  replace hF : (0 ≤ E.i 11 ∧ E.i 11 ≤ 4096) ∧ (-1 ≤ E.i 12 ∧ E.i 12 ≤ 4096) ∧ (-1 ≤ E.i 13 ∧ E.i 13 ≤ 4096) ∧ 0 ≤ E.i 9 ∧ E.i 9 ≤ 4096 := by
    simp only [ct54, lostB, bd, List.cons_append, List.nil_append, facts_cons, facts_nil, le_t, d_c, d_v, and_true] at hF
    omega
  refine ⟨fun a ha => ?_, fun x hx => ?_⟩
  · obtain rfl := Option.some.inj ha
    simp only [bd, l4, List.cons_append, List.nil_append, facts_cons, facts_nil, le_t, and_true, d_c, d_v, d_ap, d_sli, d_slnil, d_bv, d_bc, hE, fnsf0, fnsf1, fnsf2, fnsf3, fnsf4, fnsf5, fnsf6]
    have := ak_ok hF.1 hF.2.1 hF.2.2.1 hF.2.2.2; omega
  · unfold vls at hx
    simp only [List.mem_cons, List.not_mem_nil, or_false] at hx
    rcases hx with rfl | rfl | rfl | rfl
    all_goals
      intro hf
      simp only [facts_cons, facts_nil, lt_t, lt_f, le_t, le_f, eq_t, eq_f, and_true, d_c, d_v, d_ap, d_sli, d_slnil, d_bv, d_bc, hE, fnsf0, fnsf1, fnsf2, fnsf3, fnsf4, fnsf5, fnsf6, ve0, ve1, ve2] at hf
      refine ⟨rfl, ?_⟩
      simp only [List.forall_mem_cons, List.not_mem_nil, false_imp_iff, implies_true, and_true, true_and, Eqn.ok, d_c, d_v, d_ap, d_sli, d_slnil, d_bv, d_bc, hE, fnsf0, fnsf1, fnsf2, fnsf3, fnsf4, fnsf5, fnsf6, ve0, ve1, ve2, mxL, akA, akB, akC, loA, loB, loC]
      clear hE
      (try and_intros) <;> (repeat' split) <;> omega
theorem ct55_ok : CtOk Try.prog fns ct55 := by
  refine ct_of_pts (p := prmS Try.prog) (pts := []) (n := 900) (c0 := enterD (prmS Try.prog) ct55) (fun E _ => prmS_ok E) rfl (by intro q hq; cases hq) Try.func55 (by kernel_rfl) (by intro t ht; cases ht) (fun _ _ _ => True) (fun _ _ _ => 0) wls wrun ?_ (by intro i t ht; simp at ht)
  intro E hE hF
  replace hF : (0 ≤ E.i 11 ∧ E.i 11 ≤ 4096) ∧ (-1 ≤ E.i 12 ∧ E.i 12 ≤ 4096) ∧ (-1 ≤ E.i 13 ∧ E.i 13 ≤ 4096) ∧ 0 ≤ E.i 9 ∧ E.i 9 ≤ 4096 := by
    simp only [ct55, lostB, bd, List.cons_append, List.nil_append, facts_cons, facts_nil, le_t, d_c, d_v, and_true] at hF
    omega
  refine ⟨fun a ha => ?_, fun x hx => ?_⟩
  · obtain rfl := Option.some.inj ha
    simp only [bd, l4, List.cons_append, List.nil_append, facts_cons, facts_nil, le_t, and_true, d_c, d_v, d_ap, d_sli, d_slnil, d_bv, d_bc, hE, fnsf0, fnsf1, fnsf2, fnsf3, fnsf4, fnsf5, fnsf6]
    have := lo_ok hF.1 hF.2.1 hF.2.2.1 hF.2.2.2; omega
  · unfold wls at hx
    simp only [List.mem_cons, List.not_mem_nil, or_false] at hx
    rcases hx with rfl | rfl | rfl | rfl
    all_goals
      intro hf
      simp only [facts_cons, facts_nil, lt_t, lt_f, le_t, le_f, eq_t, eq_f, and_true, d_c, d_v, d_ap, d_sli, d_slnil, d_bv, d_bc, hE, fnsf0, fnsf1, fnsf2, fnsf3, fnsf4, fnsf5, fnsf6, we0, we1, we2] at hf
      refine ⟨rfl, ?_⟩
      simp only [List.forall_mem_cons, List.not_mem_nil, false_imp_iff, implies_true, and_true, true_and, Eqn.ok, d_c, d_v, d_ap, d_sli, d_slnil, d_bv, d_bc, hE, fnsf0, fnsf1, fnsf2, fnsf3, fnsf4, fnsf5, fnsf6, we0, we1, we2, mxL, akA, akB, akC, loA, loB, loC]
      clear hE
      (try and_intros) <;> (repeat' split) <;> omega
end Go.Proofs.Ytnffahllpagicaa
