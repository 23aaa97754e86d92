/- The pacer, the pacing rate and acknowledgements keep their contracts. -/
import Derived.Test.YtlclcnkmdbmceaaCcO
import Derived.Test.YtlclcnkmdbmceaaSyQ
import Derived.KernelRfl
set_option linter.unusedVariables false
set_option linter.unusedSimpArgs false
set_option maxRecDepth 100000
set_option maxHeartbeats 4000000
namespace Go.Proofs.Ytlclcnkmdbmceaa
open Go Go.Sy Go.RowKit

variable {E : Env}
theorem fnsf0 (a b : Int) : fns.f 0 [.i a, .i b] = pRate a b := rfl
theorem fnsf1 (a b : Int) : fns.f 1 [.i a, .i b] = pScale a b := rfl
theorem fnsf2 (a b c d : Int) : fns.f 2 [.i a, .i b, .i c, .i d] = pBudget a b c d := rfl
theorem fnsf3 (a b c d e : Int) : fns.f 3 [.i a, .i b, .i c, .i d, .i e] = pSent a b c d e := rfl
theorem fnsf4 (a b c : Int) : fns.f 4 [.i a, .i b, .i c] = pUntil a b c := rfl
theorem fnsf5 (a b c : Int) : fns.f 5 [.i a, .i b, .i c] = ackCw a b c := rfl
theorem prmP_ok (E : Env) (hE : E.fn = fns) : PrmOk E (prmP Try.prog) where
  ct := by intro c hc; cases hc
  mix := by kernel_rfl
  okf := okf_call
  body := okf_body
  mts := by intro x hx; cases hx
  dfr := by intro x hx; cases hx
  dfk := by intro x hx; cases hx
noncomputable def ue0 : SE := .ap 1 (.i (.v 20) (.i (.v 21) .nil))
noncomputable def ue1 : SE := .tdiv (.v 21) (.c 8)
noncomputable def ue2 : SE := .tdiv (.c 18446744073709551615) ue1
noncomputable def ue3 : SE := .wrap .u64 ue2
noncomputable def ue4 : SE := .mul ue1 (.v 20)
noncomputable def ue5 : SE := .wrap .u64 ue4
noncomputable def ue6 : SE := .tdiv ue5 (.c 1000000000)
noncomputable def ux0 : Vl := .out 0 [.i (.c 12800) ue0, .i (.v 5) (.v 5), .i (.v 6) (.v 6)] [((.lt ue3 (.v 20)), true), ((.le (.c 0) (.v 20)), true), ((.le (.v 20) (.c 10000000000)), true), ((.le (.c 100000) (.v 21)), true), ((.le (.v 21) (.c 100000000)), true)]
noncomputable def ux1 : Vl := .out 0 [.i ue6 ue0, .i (.v 5) (.v 5), .i (.v 6) (.v 6)] [((.lt ue3 (.v 20)), false), ((.le (.c 0) (.v 20)), true), ((.le (.v 20) (.c 10000000000)), true), ((.le (.c 100000) (.v 21)), true), ((.le (.v 21) (.c 100000000)), true)]
noncomputable def uls : List Vl := [ux0, ux1]
theorem urun : (run (prmP Try.prog) 900 (enterD (prmP Try.prog) ct67)).map (vOf (prmP Try.prog) ct67 []) = uls := by kernel_rfl
-- 2 ways; terms: ue0, ue1, ue2, ue3, ue4, ue5, ue6

theorem ct67_ok : CtOk Try.prog fns ct67 := by
  refine ct_of_pts (p := prmP Try.prog) (pts := []) (n := 900) (c0 := enterD (prmP Try.prog) ct67) (fun E hE => prmP_ok E hE) rfl (by intro q hq; cases hq) Try.func67 (by kernel_rfl) (by intro t ht; cases ht) (fun _ _ _ => True) (fun _ _ _ => 0) uls urun ?_ (by intro i t ht; simp at ht)
  intro E hE hF
  simp only [ct67, pacB, cwB, bd, List.cons_append, List.nil_append, facts_cons, facts_nil, le_t, eq_t, d_c, d_v, and_true] at hF
  obtain ⟨a1, a2, b1, b2⟩ := hF
  refine ⟨fun a ha => ?_, fun x hx => ?_⟩
  · obtain rfl := Option.some.inj ha
    simp only [bd, l2, l3, l4, l5, List.cons_append, List.nil_append, facts_cons, facts_nil, le_t, and_true, d_c, d_v, d_ap, d_sli, d_slnil, d_bv, d_bc, d_add, d_sub, d_mul, d_tdiv, d_tmod, d_wrap, d_mx, d_mn, hE, fnsf0, fnsf1, fnsf2, fnsf3, fnsf4, fnsf5]
    have := pScale_ok ⟨a1, a2⟩ ⟨b1, b2⟩; omega
  · unfold uls at hx
    simp only [List.mem_cons, List.not_mem_nil, or_false] at hx
    rcases hx with rfl | rfl
    all_goals
      intro hf
      simp only [facts_cons, facts_nil, lt_t, lt_f, le_t, le_f, eq_t, eq_f, and_true, d_c, d_v, d_ap, d_sli, d_slnil, d_bv, d_bc, d_add, d_sub, d_mul, d_tdiv, d_tmod, d_wrap, d_mx, d_mn, hE, fnsf0, fnsf1, fnsf2, fnsf3, fnsf4, fnsf5, ue0, ue1, ue2, ue3, ue4, ue5, ue6] at hf
      try (exfalso; omega)
    all_goals
      refine ⟨rfl, ?_⟩
      simp only [List.forall_mem_cons, List.not_mem_nil, false_imp_iff, implies_true, and_true, true_and, Eqn.ok, d_c, d_v, d_ap, d_sli, d_slnil, d_bv, d_bc, d_add, d_sub, d_mul, d_tdiv, d_tmod, d_wrap, d_mx, d_mn, hE, fnsf0, fnsf1, fnsf2, fnsf3, fnsf4, fnsf5, ue0, ue1, ue2, ue3, ue4, ue5, ue6]
      clear hE
      have hp := pProd_ok ⟨a1, a2⟩ ⟨b1, b2⟩
      have h8 : (E.i 21).tdiv 8 = E.i 21 / 8 := tdn (by omega)
      (try rw [h8] at hf)
      (try rw [h8])
      have hq : (18446744073709551615 : Int).tdiv (E.i 21 / 8) = 18446744073709551615 / (E.i 21 / 8) := tdn (by omega)
      rw [hq] at hf
      have hlo : 1000000000000 ≤ 18446744073709551615 / (E.i 21 / 8) := Int.le_ediv_of_mul_le (by omega) (by omega)
      have hhi : 18446744073709551615 / (E.i 21 / 8) ≤ 18446744073709551615 := Int.ediv_le_self _ (by decide)
      generalize 18446744073709551615 / (E.i 21 / 8) = q at *
      have hw : IntKind.u64.wrap q = q := by rw [wrap_u64]; omega
      rw [hw] at hf
      have hw2 : IntKind.u64.wrap (E.i 21 / 8 * E.i 20) = E.i 21 / 8 * E.i 20 := by rw [wrap_u64]; omega
      unfold pScale
      first
        | (exfalso; omega)
        | (rw [hw2, tdn (by omega)]; exact ⟨rfl, rfl, rfl⟩)
        | (rw [hw2, tdn (by omega)])
theorem prm67_ok (E : Env) (hE : E.fn = fns) : PrmOk E (prm67 Try.prog) where
  ct := by
    intro c hc
    simp only [prm67, List.mem_cons, List.not_mem_nil, or_false] at hc
    rw [hE]
    rcases hc with rfl
    · exact ct67_ok
  mix := by kernel_rfl
  okf := okf_call
  body := okf_body
  mts := by intro x hx; cases hx
  dfr := by intro x hx; cases hx
  dfk := by intro x hx; cases hx

noncomputable def ve0 : SE := .ap 1 (.i (.c 2000000) (.i (.v 21) .nil))
noncomputable def ve1 : SE := .mx ve0 (.c 12800)
noncomputable def ve2 : SE := .ap 2 (.i (.v 20) (.i (.v 21) (.i (.v 5) (.i (.v 6) .nil))))
noncomputable def ve3 : SE := .mn ve1 (.c 4611686018427387903)
noncomputable def ve4 : SE := .sub (.v 20) (.v 6)
noncomputable def ve5 : SE := .ap 1 (.i ve4 (.i (.v 21) .nil))
noncomputable def ve6 : SE := .add (.v 5) ve5
noncomputable def ve7 : SE := .mn ve1 ve6
noncomputable def ve8 : SE := .mn ve1 (.v 5)
noncomputable def vx0 : Vl := .out 0 [.i ve1 ve2, .i (.v 5) (.v 5), .i (.v 6) (.v 6)] [((.eq (.v 6) (.c 0)), true), ((.le (.c 0) (.v 20)), true), ((.le (.v 20) (.c 10000000000)), true), ((.le (.c 100000) (.v 21)), true), ((.le (.v 21) (.c 100000000)), true), ((.le (.c 0) (.v 5)), true), ((.le (.v 5) (.c 25000)), true), ((.le (.c 0) (.v 6)), true), ((.le (.v 6) (.c 10000000000)), true)]
noncomputable def vx1 : Vl := .out 0 [.i ve3 ve2, .i (.v 5) (.v 5), .i (.v 6) (.v 6)] [((.lt ve6 (.v 5)), true), ((.lt (.c 0) ve5), true), ((.le (.c 0) ve5), true), ((.le ve5 (.c 125000000)), true), ((.le (.c 0) ve4), true), ((.lt (.c 0) ve4), true), ((.eq (.v 6) (.c 0)), false), ((.le (.c 0) (.v 20)), true), ((.le (.v 20) (.c 10000000000)), true), ((.le (.c 100000) (.v 21)), true), ((.le (.v 21) (.c 100000000)), true), ((.le (.c 0) (.v 5)), true), ((.le (.v 5) (.c 25000)), true), ((.le (.c 0) (.v 6)), true), ((.le (.v 6) (.c 10000000000)), true)]
noncomputable def vx2 : Vl := .out 0 [.i ve7 ve2, .i (.v 5) (.v 5), .i (.v 6) (.v 6)] [((.lt ve6 (.v 5)), false), ((.lt (.c 0) ve5), true), ((.le (.c 0) ve5), true), ((.le ve5 (.c 125000000)), true), ((.le (.c 0) ve4), true), ((.lt (.c 0) ve4), true), ((.eq (.v 6) (.c 0)), false), ((.le (.c 0) (.v 20)), true), ((.le (.v 20) (.c 10000000000)), true), ((.le (.c 100000) (.v 21)), true), ((.le (.v 21) (.c 100000000)), true), ((.le (.c 0) (.v 5)), true), ((.le (.v 5) (.c 25000)), true), ((.le (.c 0) (.v 6)), true), ((.le (.v 6) (.c 10000000000)), true)]
noncomputable def vx3 : Vl := .out 0 [.i ve7 ve2, .i (.v 5) (.v 5), .i (.v 6) (.v 6)] [((.lt (.c 0) ve5), false), ((.le (.c 0) ve5), true), ((.le ve5 (.c 125000000)), true), ((.le (.c 0) ve4), true), ((.lt (.c 0) ve4), true), ((.eq (.v 6) (.c 0)), false), ((.le (.c 0) (.v 20)), true), ((.le (.v 20) (.c 10000000000)), true), ((.le (.c 100000) (.v 21)), true), ((.le (.v 21) (.c 100000000)), true), ((.le (.c 0) (.v 5)), true), ((.le (.v 5) (.c 25000)), true), ((.le (.c 0) (.v 6)), true), ((.le (.v 6) (.c 10000000000)), true)]
noncomputable def vx4 : Vl := .dead [((.le (.c 0) ve4), false), ((.lt (.c 0) ve4), true), ((.eq (.v 6) (.c 0)), false), ((.le (.c 0) (.v 20)), true), ((.le (.v 20) (.c 10000000000)), true), ((.le (.c 100000) (.v 21)), true), ((.le (.v 21) (.c 100000000)), true), ((.le (.c 0) (.v 5)), true), ((.le (.v 5) (.c 25000)), true), ((.le (.c 0) (.v 6)), true), ((.le (.v 6) (.c 10000000000)), true)]
noncomputable def vx5 : Vl := .out 0 [.i ve8 ve2, .i (.v 5) (.v 5), .i (.v 6) (.v 6)] [((.lt (.c 0) ve4), false), ((.eq (.v 6) (.c 0)), false), ((.le (.c 0) (.v 20)), true), ((.le (.v 20) (.c 10000000000)), true), ((.le (.c 100000) (.v 21)), true), ((.le (.v 21) (.c 100000000)), true), ((.le (.c 0) (.v 5)), true), ((.le (.v 5) (.c 25000)), true), ((.le (.c 0) (.v 6)), true), ((.le (.v 6) (.c 10000000000)), true)]
noncomputable def vls : List Vl := [vx0, vx1, vx2, vx3, vx4, vx5]
theorem vrun : (run (prm67 Try.prog) 900 (enterD (prm67 Try.prog) ct50)).map (vOf (prm67 Try.prog) ct50 []) = vls := by kernel_rfl
-- 6 ways; terms: ve0, ve1, ve2, ve3, ve4, ve5, ve6, ve7, ve8

theorem ct50_ok : CtOk Try.prog fns ct50 := by
  refine ct_of_pts (p := prm67 Try.prog) (pts := []) (n := 900) (c0 := enterD (prm67 Try.prog) ct50) (fun E hE => prm67_ok E hE) rfl (by intro q hq; cases hq) Try.func50 (by kernel_rfl) (by intro t ht; cases ht) (fun _ _ _ => True) (fun _ _ _ => 0) vls vrun ?_ (by intro i t ht; simp at ht)
  intro E hE hF
  simp only [ct50, pacB, cwB, bd, List.cons_append, List.nil_append, facts_cons, facts_nil, le_t, eq_t, d_c, d_v, and_true] at hF
  obtain ⟨a1, a2, b1, b2, c1, c2, d1, d2⟩ := hF
  refine ⟨fun a ha => ?_, fun x hx => ?_⟩
  · obtain rfl := Option.some.inj ha
    simp only [bd, l2, l3, l4, l5, List.cons_append, List.nil_append, facts_cons, facts_nil, le_t, and_true, d_c, d_v, d_ap, d_sli, d_slnil, d_bv, d_bc, d_add, d_sub, d_mul, d_tdiv, d_tmod, d_wrap, d_mx, d_mn, hE, fnsf0, fnsf1, fnsf2, fnsf3, fnsf4, fnsf5]
    have := pBudget_ok (now := E.i 20) ⟨a1, a2⟩ d1 c1 ⟨b1, b2⟩; omega
  · unfold vls at hx
    simp only [List.mem_cons, List.not_mem_nil, or_false] at hx
    rcases hx with rfl | rfl | rfl | rfl | rfl | rfl
    all_goals
      intro hf
      simp only [facts_cons, facts_nil, lt_t, lt_f, le_t, le_f, eq_t, eq_f, and_true, d_c, d_v, d_ap, d_sli, d_slnil, d_bv, d_bc, d_add, d_sub, d_mul, d_tdiv, d_tmod, d_wrap, d_mx, d_mn, hE, fnsf0, fnsf1, fnsf2, fnsf3, fnsf4, fnsf5, ve0, ve1, ve2, ve3, ve4, ve5, ve6, ve7, ve8] at hf
      try (exfalso; omega)
    all_goals
      refine ⟨rfl, ?_⟩
      simp only [List.forall_mem_cons, List.not_mem_nil, false_imp_iff, implies_true, and_true, true_and, Eqn.ok, d_c, d_v, d_ap, d_sli, d_slnil, d_bv, d_bc, d_add, d_sub, d_mul, d_tdiv, d_tmod, d_wrap, d_mx, d_mn, hE, fnsf0, fnsf1, fnsf2, fnsf3, fnsf4, fnsf5, ve0, ve1, ve2, ve3, ve4, ve5, ve6, ve7, ve8]
      clear hE
      have h2 := pBurst_ok ⟨b1, b2⟩
      have h3 := pAdd_ok ⟨a1, a2⟩ d1 ⟨b1, b2⟩
      have hB : imx (pScale 2000000 (E.i 21)) 12800 = pBurst (E.i 21) := rfl
      rw [hB]
      unfold pBudget
      unfold pAdd at h3 ⊢
      generalize pBurst (E.i 21) = B at *
      generalize hS : pScale (E.i 20 - E.i 6) (E.i 21) = S at *
      have o1 := imn_or B 4611686018427387903
      have o2 := imn_or B (E.i 5 + S)
      have o3 := imn_or B (E.i 5)
      have o4 := imn_or B (E.i 5 + 0)
      split <;> (try split at h3) <;> (try rw [if_pos (by omega)]) <;> (try rw [if_neg (by omega)]) <;> first | omega | exact rfl
theorem prm50_ok (E : Env) (hE : E.fn = fns) : PrmOk E (prm50 Try.prog) where
  ct := by
    intro c hc
    simp only [prm50, List.mem_cons, List.not_mem_nil, or_false] at hc
    rw [hE]
    rcases hc with rfl | rfl
    · exact ct67_ok
    · exact ct50_ok
  mix := by kernel_rfl
  okf := okf_call
  body := okf_body
  mts := by intro x hx; cases hx
  dfr := by intro x hx; cases hx
  dfk := by intro x hx; cases hx

noncomputable def we0 : SE := .ap 3 (.i (.v 20) (.i (.v 22) (.i (.v 21) (.i (.v 5) (.i (.v 6) .nil)))))
noncomputable def we1 : SE := .ap 2 (.i (.v 20) (.i (.v 21) (.i (.v 5) (.i (.v 6) .nil))))
noncomputable def we2 : SE := .sub we1 (.v 22)
noncomputable def wx0 : Vl := .out 0 [.i (.c 0) we0, .i (.v 20) (.v 20)] [((.le we1 (.v 22)), true), ((.le (.c 0) we1), true), ((.le we1 (.c 25000)), true), ((.le (.c 0) (.v 20)), true), ((.le (.v 20) (.c 10000000000)), true), ((.le (.c 100000) (.v 21)), true), ((.le (.v 21) (.c 100000000)), true), ((.le (.c 0) (.v 22)), true), ((.le (.v 22) (.c 2000)), true), ((.le (.c 0) (.v 5)), true), ((.le (.v 5) (.c 25000)), true), ((.le (.c 0) (.v 6)), true), ((.le (.v 6) (.c 10000000000)), true)]
noncomputable def wx1 : Vl := .out 0 [.i we2 we0, .i (.v 20) (.v 20)] [((.le we1 (.v 22)), false), ((.le (.c 0) we1), true), ((.le we1 (.c 25000)), true), ((.le (.c 0) (.v 20)), true), ((.le (.v 20) (.c 10000000000)), true), ((.le (.c 100000) (.v 21)), true), ((.le (.v 21) (.c 100000000)), true), ((.le (.c 0) (.v 22)), true), ((.le (.v 22) (.c 2000)), true), ((.le (.c 0) (.v 5)), true), ((.le (.v 5) (.c 25000)), true), ((.le (.c 0) (.v 6)), true), ((.le (.v 6) (.c 10000000000)), true)]
noncomputable def wls : List Vl := [wx0, wx1]
theorem wrun : (run (prm50 Try.prog) 900 (enterD (prm50 Try.prog) ct29)).map (vOf (prm50 Try.prog) ct29 []) = wls := by kernel_rfl
-- 2 ways; terms: we0, we1, we2

theorem ct29_ok : CtOk Try.prog fns ct29 := by
  refine ct_of_pts (p := prm50 Try.prog) (pts := []) (n := 900) (c0 := enterD (prm50 Try.prog) ct29) (fun E hE => prm50_ok E hE) rfl (by intro q hq; cases hq) Try.func29 (by kernel_rfl) (by intro t ht; cases ht) (fun _ _ _ => True) (fun _ _ _ => 0) wls wrun ?_ (by intro i t ht; simp at ht)
  intro E hE hF
  simp only [ct29, pacB, cwB, bd, List.cons_append, List.nil_append, facts_cons, facts_nil, le_t, eq_t, d_c, d_v, and_true] at hF
  obtain ⟨a1, a2, b1, b2, s1, s2, c1, c2, d1, d2⟩ := hF
  refine ⟨fun a ha => ?_, fun x hx => ?_⟩
  · obtain rfl := Option.some.inj ha
    simp only [bd, l2, l3, l4, l5, List.cons_append, List.nil_append, facts_cons, facts_nil, le_t, and_true, d_c, d_v, d_ap, d_sli, d_slnil, d_bv, d_bc, d_add, d_sub, d_mul, d_tdiv, d_tmod, d_wrap, d_mx, d_mn, hE, fnsf0, fnsf1, fnsf2, fnsf3, fnsf4, fnsf5]
    have := pSent_ok (now := E.i 20) (size := E.i 22) ⟨a1, a2⟩ s1 d1 c1 ⟨b1, b2⟩; omega
  · unfold wls at hx
    simp only [List.mem_cons, List.not_mem_nil, or_false] at hx
    rcases hx with rfl | rfl
    all_goals
      intro hf
      simp only [facts_cons, facts_nil, lt_t, lt_f, le_t, le_f, eq_t, eq_f, and_true, d_c, d_v, d_ap, d_sli, d_slnil, d_bv, d_bc, d_add, d_sub, d_mul, d_tdiv, d_tmod, d_wrap, d_mx, d_mn, hE, fnsf0, fnsf1, fnsf2, fnsf3, fnsf4, fnsf5, we0, we1, we2] at hf
      try (exfalso; omega)
    all_goals
      refine ⟨rfl, ?_⟩
      simp only [List.forall_mem_cons, List.not_mem_nil, false_imp_iff, implies_true, and_true, true_and, Eqn.ok, d_c, d_v, d_ap, d_sli, d_slnil, d_bv, d_bc, d_add, d_sub, d_mul, d_tdiv, d_tmod, d_wrap, d_mx, d_mn, hE, fnsf0, fnsf1, fnsf2, fnsf3, fnsf4, fnsf5, we0, we1, we2]
      clear hE
      unfold pSent
      split <;> omega

noncomputable def xe0 : SE := .ap 4 (.i (.v 21) (.i (.v 5) (.i (.v 6) .nil)))
noncomputable def xe1 : SE := .sub (.c 1280) (.v 5)
noncomputable def xe2 : SE := .mul (.c 1000000000) xe1
noncomputable def xe3 : SE := .tdiv (.v 21) (.c 8)
noncomputable def xe4 : SE := .tdiv xe2 xe3
noncomputable def xe5 : SE := .wrap .u64 xe4
noncomputable def xe6 : SE := .add xe5 (.c 1)
noncomputable def xe7 : SE := .wrap .u64 xe6
noncomputable def xe8 : SE := .wrap .i64 xe7
noncomputable def xe9 : SE := .mx (.c 1000000) xe8
noncomputable def xe10 : SE := .add (.v 6) xe9
noncomputable def xe11 : SE := .wrap .i64 xe10
noncomputable def xe12 : SE := .tmod xe2 xe3
noncomputable def xe13 : SE := .wrap .i64 xe5
noncomputable def xe14 : SE := .mx (.c 1000000) xe13
noncomputable def xe15 : SE := .add (.v 6) xe14
noncomputable def xe16 : SE := .wrap .i64 xe15
noncomputable def xx0 : Vl := .out 0 [.i (.c 0) xe0, .i (.v 5) (.v 5), .i (.v 6) (.v 6)] [((.eq (.v 6) (.c 0)), true), ((.le (.c 100000) (.v 21)), true), ((.le (.v 21) (.c 100000000)), true), ((.le (.c 0) (.v 5)), true), ((.le (.v 5) (.c 25000)), true), ((.le (.c 0) (.v 6)), true), ((.le (.v 6) (.c 10000000000)), true)]
noncomputable def xx1 : Vl := .out 0 [.i (.c 0) xe0, .i (.v 5) (.v 5), .i (.v 6) (.v 6)] [((.le (.c 1280) (.v 5)), true), ((.eq (.v 6) (.c 0)), false), ((.le (.c 100000) (.v 21)), true), ((.le (.v 21) (.c 100000000)), true), ((.le (.c 0) (.v 5)), true), ((.le (.v 5) (.c 25000)), true), ((.le (.c 0) (.v 6)), true), ((.le (.v 6) (.c 10000000000)), true)]
noncomputable def xx2 : Vl := .out 0 [.i xe11 xe0, .i (.v 5) (.v 5), .i (.v 6) (.v 6)] [((.lt (.c 0) xe12), true), ((.le (.c 1280) (.v 5)), false), ((.eq (.v 6) (.c 0)), false), ((.le (.c 100000) (.v 21)), true), ((.le (.v 21) (.c 100000000)), true), ((.le (.c 0) (.v 5)), true), ((.le (.v 5) (.c 25000)), true), ((.le (.c 0) (.v 6)), true), ((.le (.v 6) (.c 10000000000)), true)]
noncomputable def xx3 : Vl := .out 0 [.i xe16 xe0, .i (.v 5) (.v 5), .i (.v 6) (.v 6)] [((.lt (.c 0) xe12), false), ((.le (.c 1280) (.v 5)), false), ((.eq (.v 6) (.c 0)), false), ((.le (.c 100000) (.v 21)), true), ((.le (.v 21) (.c 100000000)), true), ((.le (.c 0) (.v 5)), true), ((.le (.v 5) (.c 25000)), true), ((.le (.c 0) (.v 6)), true), ((.le (.v 6) (.c 10000000000)), true)]
noncomputable def xls : List Vl := [xx0, xx1, xx2, xx3]
theorem xrun : (run (prmP Try.prog) 900 (enterD (prmP Try.prog) ct51)).map (vOf (prmP Try.prog) ct51 []) = xls := by kernel_rfl
-- 4 ways; terms: xe0, xe1, xe2, xe3, xe4, xe5, xe6, xe7, xe8, xe9, xe10, xe11, xe12, xe13, xe14, xe15, xe16

theorem ct51_ok : CtOk Try.prog fns ct51 := by
  refine ct_of_pts (p := prmP Try.prog) (pts := []) (n := 900) (c0 := enterD (prmP Try.prog) ct51) (fun E hE => prmP_ok E hE) rfl (by intro q hq; cases hq) Try.func51 (by kernel_rfl) (by intro t ht; cases ht) (fun _ _ _ => True) (fun _ _ _ => 0) xls xrun ?_ (by intro i t ht; simp at ht)
  intro E hE hF
  simp only [ct51, pacB, cwB, bd, List.cons_append, List.nil_append, facts_cons, facts_nil, le_t, eq_t, d_c, d_v, and_true] at hF
  obtain ⟨b1, b2, c1, c2, d1, d2⟩ := hF
  refine ⟨fun a ha => ?_, fun x hx => ?_⟩
  · obtain rfl := Option.some.inj ha
    intro q hq; cases hq
  · unfold xls at hx
    simp only [List.mem_cons, List.not_mem_nil, or_false] at hx
    rcases hx with rfl | rfl | rfl | rfl
    all_goals
      intro hf
      simp only [facts_cons, facts_nil, lt_t, lt_f, le_t, le_f, eq_t, eq_f, and_true, d_c, d_v, d_ap, d_sli, d_slnil, d_bv, d_bc, d_add, d_sub, d_mul, d_tdiv, d_tmod, d_wrap, d_mx, d_mn, hE, fnsf0, fnsf1, fnsf2, fnsf3, fnsf4, fnsf5, xe0, xe1, xe2, xe3, xe4, xe5, xe6, xe7, xe8, xe9, xe10, xe11, xe12, xe13, xe14, xe15, xe16] at hf
      try (exfalso; omega)
    all_goals
      refine ⟨rfl, ?_⟩
      simp only [List.forall_mem_cons, List.not_mem_nil, false_imp_iff, implies_true, and_true, true_and, Eqn.ok, d_c, d_v, d_ap, d_sli, d_slnil, d_bv, d_bc, d_add, d_sub, d_mul, d_tdiv, d_tmod, d_wrap, d_mx, d_mn, hE, fnsf0, fnsf1, fnsf2, fnsf3, fnsf4, fnsf5, xe0, xe1, xe2, xe3, xe4, xe5, xe6, xe7, xe8, xe9, xe10, xe11, xe12, xe13, xe14, xe15, xe16]
      clear hE
      have h8 : (E.i 21).tdiv 8 = E.i 21 / 8 := tdn (by omega)
      (try rw [h8] at hf)
      (try rw [h8])
      unfold pUntil
      first
        | (rw [if_pos (by omega)])
        | (rw [if_neg (by omega)]
           have hx : (1000000000 * (1280 - E.i 5)).tdiv (E.i 21 / 8) = 1000000000 * (1280 - E.i 5) / (E.i 21 / 8) := tdn (by omega)
           have hy : (1000000000 * (1280 - E.i 5)).tmod (E.i 21 / 8) = (1000000000 * (1280 - E.i 5)) % (E.i 21 / 8) := tmn (by omega)
           have hm0 : 0 ≤ (1000000000 * (1280 - E.i 5)) % (E.i 21 / 8) := Int.emod_nonneg _ (by omega)
           have hm1 : (1000000000 * (1280 - E.i 5)) % (E.i 21 / 8) < E.i 21 / 8 := Int.emod_lt_of_pos _ (by omega)
           have hq0 : 0 ≤ 1000000000 * (1280 - E.i 5) / (E.i 21 / 8) := Int.ediv_nonneg (by omega) (by omega)
           have hq1 : 1000000000 * (1280 - E.i 5) / (E.i 21 / 8) ≤ 1000000000 * (1280 - E.i 5) := Int.ediv_le_self _ (by omega)
           rw [hy] at hf
           rw [hx]
           unfold pWait
           generalize (1000000000 * (1280 - E.i 5)) % (E.i 21 / 8) = M at *
           generalize 1000000000 * (1280 - E.i 5) / (E.i 21 / 8) = Q at *
           simp only [wrap_u64, ws_i64] at hf ⊢
           have o1 := imx_or 1000000 Q
           have o2 := imx_or 1000000 (Q + 1)
           have e1 : Q % 18446744073709551616 = Q := by omega
           have e2 : (Q + 1) % 18446744073709551616 = Q + 1 := by omega
           have e3 : (Q + 9223372036854775808) % 18446744073709551616 - 9223372036854775808 = Q := by omega
           have e4 : (Q + 1 + 9223372036854775808) % 18446744073709551616 - 9223372036854775808 = Q + 1 := by omega
           simp only [e1, e2, e3, e4]
           split <;> omega)

noncomputable def ye0 : SE := .mul (.v 14) (.c 1000000000)
noncomputable def ye1 : SE := .tdiv ye0 (.c 100000000)
noncomputable def ye2 : SE := .mul ye1 (.c 8)
noncomputable def ye3 : SE := .mul (.c 2) ye2
noncomputable def ye4 : SE := .ap 0 (.i (.v 14) (.i (.v 15) .nil))
noncomputable def ye5 : SE := .mul (.c 32) (.v 1)
noncomputable def ye6 : SE := .mul (.c 10000) (.v 1)
noncomputable def ye7 : SE := .mul ye2 (.c 5)
noncomputable def ye8 : SE := .tdiv ye7 (.c 4)
noncomputable def yx0 : Vl := .out 0 [.i ye3 ye4, .i (.v 9) (.v 9), .i (.v 7) (.v 7), .i (.v 8) (.v 8), .i (.v 4) (.v 4), .i (.v 5) (.v 5), .i (.v 6) (.v 6), .i (.v 10) (.v 10), .b (.v 0) (.v 0), .i (.v 11) (.v 11), .i (.v 12) (.v 12), .i (.v 13) (.v 13), .b (.v 1) (.v 1), .i (.v 14) (.v 14), .i (.v 15) (.v 15), .i (.v 16) (.v 16), .i (.v 17) (.v 17), .i (.v 18) (.v 18), .i (.v 19) (.v 19), .i ye5 ye5, .i ye6 ye6, .i (.v 1) (.v 1)] [((.lt (.v 14) (.v 15)), true), ((.le (.c 1200) (.v 1)), true), ((.le (.v 1) (.c 1455)), true), ((.le (.c 2400) (.v 14)), true), ((.le (.v 14) (.c 200000)), true)]
noncomputable def yx1 : Vl := .out 0 [.i ye8 ye4, .i (.v 9) (.v 9), .i (.v 7) (.v 7), .i (.v 8) (.v 8), .i (.v 4) (.v 4), .i (.v 5) (.v 5), .i (.v 6) (.v 6), .i (.v 10) (.v 10), .b (.v 0) (.v 0), .i (.v 11) (.v 11), .i (.v 12) (.v 12), .i (.v 13) (.v 13), .b (.v 1) (.v 1), .i (.v 14) (.v 14), .i (.v 15) (.v 15), .i (.v 16) (.v 16), .i (.v 17) (.v 17), .i (.v 18) (.v 18), .i (.v 19) (.v 19), .i ye5 ye5, .i ye6 ye6, .i (.v 1) (.v 1)] [((.lt (.v 14) (.v 15)), false), ((.le (.c 1200) (.v 1)), true), ((.le (.v 1) (.c 1455)), true), ((.le (.c 2400) (.v 14)), true), ((.le (.v 14) (.c 200000)), true)]
noncomputable def yls : List Vl := [yx0, yx1]
theorem yrun : (run (prmP Try.prog) 900 (enterD (prmP Try.prog) ct30)).map (vOf (prmP Try.prog) ct30 []) = yls := by kernel_rfl
-- 2 ways; terms: ye0, ye1, ye2, ye3, ye4, ye5, ye6, ye7, ye8

theorem ct30_ok : CtOk Try.prog fns ct30 := by
  refine ct_of_pts (p := prmP Try.prog) (pts := []) (n := 900) (c0 := enterD (prmP Try.prog) ct30) (fun E hE => prmP_ok E hE) rfl (by intro q hq; cases hq) Try.func30 (by kernel_rfl) (by intro t ht; cases ht) (fun _ _ _ => True) (fun _ _ _ => 0) yls yrun ?_ (by intro i t ht; simp at ht)
  intro E hE hF
  simp only [ct30, pacB, cwB, bd, List.cons_append, List.nil_append, facts_cons, facts_nil, le_t, eq_t, d_c, d_v, and_true] at hF
  obtain ⟨a1, a2, b1, b2⟩ := hF
  refine ⟨fun a ha => ?_, fun x hx => ?_⟩
  · obtain rfl := Option.some.inj ha
    simp only [bd, l2, l3, l4, l5, List.cons_append, List.nil_append, facts_cons, facts_nil, le_t, and_true, d_c, d_v, d_ap, d_sli, d_slnil, d_bv, d_bc, d_add, d_sub, d_mul, d_tdiv, d_tmod, d_wrap, d_mx, d_mn, hE, fnsf0, fnsf1, fnsf2, fnsf3, fnsf4, fnsf5]
    have := pRate_ok (sst := E.i 15) ⟨b1, b2⟩; omega
  · unfold yls at hx
    simp only [List.mem_cons, List.not_mem_nil, or_false] at hx
    rcases hx with rfl | rfl
    all_goals
      intro hf
      simp only [facts_cons, facts_nil, lt_t, lt_f, le_t, le_f, eq_t, eq_f, and_true, d_c, d_v, d_ap, d_sli, d_slnil, d_bv, d_bc, d_add, d_sub, d_mul, d_tdiv, d_tmod, d_wrap, d_mx, d_mn, hE, fnsf0, fnsf1, fnsf2, fnsf3, fnsf4, fnsf5, ye0, ye1, ye2, ye3, ye4, ye5, ye6, ye7, ye8] at hf
      try (exfalso; omega)
    all_goals
      refine ⟨rfl, ?_⟩
      simp only [List.forall_mem_cons, List.not_mem_nil, false_imp_iff, implies_true, and_true, true_and, Eqn.ok, d_c, d_v, d_ap, d_sli, d_slnil, d_bv, d_bc, d_add, d_sub, d_mul, d_tdiv, d_tmod, d_wrap, d_mx, d_mn, hE, fnsf0, fnsf1, fnsf2, fnsf3, fnsf4, fnsf5, ye0, ye1, ye2, ye3, ye4, ye5, ye6, ye7, ye8]
      clear hE
      unfold pRate
      have h1 : (E.i 14 * 1000000000).tdiv 100000000 = E.i 14 * 1000000000 / 100000000 := tdn (by omega)
      rw [h1] at *
      have h2 : (E.i 14 * 1000000000 / 100000000 * 8 * 5).tdiv 4 = E.i 14 * 1000000000 / 100000000 * 8 * 5 / 4 := tdn (by omega)
      try rw [h2]
      and_intros <;> (try rfl) <;> split <;> omega

noncomputable def ze0 : SE := .add (.v 14) (.v 1)
noncomputable def ze1 : SE := .ap 5 (.i (.v 14) (.i (.v 22) (.i (.v 1) .nil)))
noncomputable def ze2 : SE := .mx (.v 20) (.v 12)
noncomputable def ze3 : SE := .mul (.c 32) (.v 1)
noncomputable def ze4 : SE := .mul (.c 10000) (.v 1)
noncomputable def ze5 : SE := .tdiv (.v 14) (.c 2)
noncomputable def ze6 : SE := .sub (.v 14) (.v 22)
noncomputable def ze7 : SE := .mul (.c 3) (.v 1)
noncomputable def zx0 : Vl := .out 0 [.i ze0 ze1, .i (.v 7) (.v 7), .i (.v 8) (.v 8), .i (.v 4) (.v 4), .i (.v 5) (.v 5), .i (.v 6) (.v 6), .i (.v 10) (.v 10), .b (.v 0) (.v 0), .i (.v 11) (.v 11), .i ze2 ze2, .i (.v 13) (.v 13), .b (.v 1) (.v 1), .i ze0 ze1, .i (.v 15) (.v 15), .i (.v 16) (.v 16), .i (.v 17) (.v 17), .i (.v 18) (.v 18), .i (.v 19) (.v 19), .i ze3 ze3, .i ze4 ze4, .i (.v 1) (.v 1)] [((.lt (.c 0) (.v 20)), true), ((.le (.v 14) (.v 22)), true), ((.le (.c 1200) (.v 1)), true), ((.le (.v 1) (.c 1455)), true), ((.le (.c 2400) (.v 14)), true), ((.le (.v 14) (.c 200000)), true), ((.le (.c 0) (.v 20)), true), ((.le (.v 20) (.c 1000)), true), ((.le (.c 0) (.v 22)), true), ((.le (.v 22) (.c 1000000)), true), ((.le (.c (-1)) (.v 12)), true), ((.le (.v 12) (.c 1000)), true), ((.le (.c 2400) (.v 14)), true), ((.le (.v 14) (.c 190000)), true), ((.eq (.v 13) (.c (-1))), true), ((.eq (.v 15) (.c 4611686018427387903)), true)]
noncomputable def zx1 : Vl := .out 0 [.i ze0 ze1, .i (.v 7) (.v 7), .i (.v 8) (.v 8), .i (.v 4) (.v 4), .i (.v 5) (.v 5), .i (.v 6) (.v 6), .i (.v 10) (.v 10), .b (.v 0) (.v 0), .i (.v 11) (.v 11), .i ze2 ze2, .i (.v 13) (.v 13), .b (.v 1) (.v 1), .i ze0 ze1, .i (.v 15) (.v 15), .i (.v 16) (.v 16), .i (.v 17) (.v 17), .i (.v 18) (.v 18), .i (.v 19) (.v 19), .i ze3 ze3, .i ze4 ze4, .i (.v 1) (.v 1)] [((.lt (.c 0) (.v 20)), false), ((.le (.v 14) (.v 22)), true), ((.le (.c 1200) (.v 1)), true), ((.le (.v 1) (.c 1455)), true), ((.le (.c 2400) (.v 14)), true), ((.le (.v 14) (.c 200000)), true), ((.le (.c 0) (.v 20)), true), ((.le (.v 20) (.c 1000)), true), ((.le (.c 0) (.v 22)), true), ((.le (.v 22) (.c 1000000)), true), ((.le (.c (-1)) (.v 12)), true), ((.le (.v 12) (.c 1000)), true), ((.le (.c 2400) (.v 14)), true), ((.le (.v 14) (.c 190000)), true), ((.eq (.v 13) (.c (-1))), true), ((.eq (.v 15) (.c 4611686018427387903)), true)]
noncomputable def zx2 : Vl := .out 0 [.i ze0 ze1, .i (.v 7) (.v 7), .i (.v 8) (.v 8), .i (.v 4) (.v 4), .i (.v 5) (.v 5), .i (.v 6) (.v 6), .i (.v 10) (.v 10), .b (.v 0) (.v 0), .i (.v 11) (.v 11), .i ze2 ze2, .i (.v 13) (.v 13), .b (.v 1) (.v 1), .i ze0 ze1, .i (.v 15) (.v 15), .i (.v 16) (.v 16), .i (.v 17) (.v 17), .i (.v 18) (.v 18), .i (.v 19) (.v 19), .i ze3 ze3, .i ze4 ze4, .i (.v 1) (.v 1)] [((.lt (.c 0) (.v 20)), true), ((.lt ze5 (.v 22)), true), ((.le (.v 14) (.v 22)), false), ((.le (.c 1200) (.v 1)), true), ((.le (.v 1) (.c 1455)), true), ((.le (.c 2400) (.v 14)), true), ((.le (.v 14) (.c 200000)), true), ((.le (.c 0) (.v 20)), true), ((.le (.v 20) (.c 1000)), true), ((.le (.c 0) (.v 22)), true), ((.le (.v 22) (.c 1000000)), true), ((.le (.c (-1)) (.v 12)), true), ((.le (.v 12) (.c 1000)), true), ((.le (.c 2400) (.v 14)), true), ((.le (.v 14) (.c 190000)), true), ((.eq (.v 13) (.c (-1))), true), ((.eq (.v 15) (.c 4611686018427387903)), true)]
noncomputable def zx3 : Vl := .out 0 [.i ze0 ze1, .i (.v 7) (.v 7), .i (.v 8) (.v 8), .i (.v 4) (.v 4), .i (.v 5) (.v 5), .i (.v 6) (.v 6), .i (.v 10) (.v 10), .b (.v 0) (.v 0), .i (.v 11) (.v 11), .i ze2 ze2, .i (.v 13) (.v 13), .b (.v 1) (.v 1), .i ze0 ze1, .i (.v 15) (.v 15), .i (.v 16) (.v 16), .i (.v 17) (.v 17), .i (.v 18) (.v 18), .i (.v 19) (.v 19), .i ze3 ze3, .i ze4 ze4, .i (.v 1) (.v 1)] [((.lt (.c 0) (.v 20)), false), ((.lt ze5 (.v 22)), true), ((.le (.v 14) (.v 22)), false), ((.le (.c 1200) (.v 1)), true), ((.le (.v 1) (.c 1455)), true), ((.le (.c 2400) (.v 14)), true), ((.le (.v 14) (.c 200000)), true), ((.le (.c 0) (.v 20)), true), ((.le (.v 20) (.c 1000)), true), ((.le (.c 0) (.v 22)), true), ((.le (.v 22) (.c 1000000)), true), ((.le (.c (-1)) (.v 12)), true), ((.le (.v 12) (.c 1000)), true), ((.le (.c 2400) (.v 14)), true), ((.le (.v 14) (.c 190000)), true), ((.eq (.v 13) (.c (-1))), true), ((.eq (.v 15) (.c 4611686018427387903)), true)]
noncomputable def zx4 : Vl := .out 0 [.i ze0 ze1, .i (.v 7) (.v 7), .i (.v 8) (.v 8), .i (.v 4) (.v 4), .i (.v 5) (.v 5), .i (.v 6) (.v 6), .i (.v 10) (.v 10), .b (.v 0) (.v 0), .i (.v 11) (.v 11), .i ze2 ze2, .i (.v 13) (.v 13), .b (.v 1) (.v 1), .i ze0 ze1, .i (.v 15) (.v 15), .i (.v 16) (.v 16), .i (.v 17) (.v 17), .i (.v 18) (.v 18), .i (.v 19) (.v 19), .i ze3 ze3, .i ze4 ze4, .i (.v 1) (.v 1)] [((.lt (.c 0) (.v 20)), true), ((.le ze6 ze7), true), ((.lt ze5 (.v 22)), false), ((.le (.v 14) (.v 22)), false), ((.le (.c 1200) (.v 1)), true), ((.le (.v 1) (.c 1455)), true), ((.le (.c 2400) (.v 14)), true), ((.le (.v 14) (.c 200000)), true), ((.le (.c 0) (.v 20)), true), ((.le (.v 20) (.c 1000)), true), ((.le (.c 0) (.v 22)), true), ((.le (.v 22) (.c 1000000)), true), ((.le (.c (-1)) (.v 12)), true), ((.le (.v 12) (.c 1000)), true), ((.le (.c 2400) (.v 14)), true), ((.le (.v 14) (.c 190000)), true), ((.eq (.v 13) (.c (-1))), true), ((.eq (.v 15) (.c 4611686018427387903)), true)]
noncomputable def zx5 : Vl := .out 0 [.i ze0 ze1, .i (.v 7) (.v 7), .i (.v 8) (.v 8), .i (.v 4) (.v 4), .i (.v 5) (.v 5), .i (.v 6) (.v 6), .i (.v 10) (.v 10), .b (.v 0) (.v 0), .i (.v 11) (.v 11), .i ze2 ze2, .i (.v 13) (.v 13), .b (.v 1) (.v 1), .i ze0 ze1, .i (.v 15) (.v 15), .i (.v 16) (.v 16), .i (.v 17) (.v 17), .i (.v 18) (.v 18), .i (.v 19) (.v 19), .i ze3 ze3, .i ze4 ze4, .i (.v 1) (.v 1)] [((.lt (.c 0) (.v 20)), false), ((.le ze6 ze7), true), ((.lt ze5 (.v 22)), false), ((.le (.v 14) (.v 22)), false), ((.le (.c 1200) (.v 1)), true), ((.le (.v 1) (.c 1455)), true), ((.le (.c 2400) (.v 14)), true), ((.le (.v 14) (.c 200000)), true), ((.le (.c 0) (.v 20)), true), ((.le (.v 20) (.c 1000)), true), ((.le (.c 0) (.v 22)), true), ((.le (.v 22) (.c 1000000)), true), ((.le (.c (-1)) (.v 12)), true), ((.le (.v 12) (.c 1000)), true), ((.le (.c 2400) (.v 14)), true), ((.le (.v 14) (.c 190000)), true), ((.eq (.v 13) (.c (-1))), true), ((.eq (.v 15) (.c 4611686018427387903)), true)]
noncomputable def zx6 : Vl := .out 0 [.i (.v 14) ze1, .i (.v 7) (.v 7), .i (.v 8) (.v 8), .i (.v 4) (.v 4), .i (.v 5) (.v 5), .i (.v 6) (.v 6), .i (.v 10) (.v 10), .b (.v 0) (.v 0), .i (.v 11) (.v 11), .i ze2 ze2, .i (.v 13) (.v 13), .b (.v 1) (.v 1), .i (.v 14) ze1, .i (.v 15) (.v 15), .i (.v 16) (.v 16), .i (.v 17) (.v 17), .i (.v 18) (.v 18), .i (.v 19) (.v 19), .i ze3 ze3, .i ze4 ze4, .i (.v 1) (.v 1)] [((.lt (.c 0) (.v 20)), true), ((.le ze6 ze7), false), ((.lt ze5 (.v 22)), false), ((.le (.v 14) (.v 22)), false), ((.le (.c 1200) (.v 1)), true), ((.le (.v 1) (.c 1455)), true), ((.le (.c 2400) (.v 14)), true), ((.le (.v 14) (.c 200000)), true), ((.le (.c 0) (.v 20)), true), ((.le (.v 20) (.c 1000)), true), ((.le (.c 0) (.v 22)), true), ((.le (.v 22) (.c 1000000)), true), ((.le (.c (-1)) (.v 12)), true), ((.le (.v 12) (.c 1000)), true), ((.le (.c 2400) (.v 14)), true), ((.le (.v 14) (.c 190000)), true), ((.eq (.v 13) (.c (-1))), true), ((.eq (.v 15) (.c 4611686018427387903)), true)]
noncomputable def zx7 : Vl := .out 0 [.i (.v 14) ze1, .i (.v 7) (.v 7), .i (.v 8) (.v 8), .i (.v 4) (.v 4), .i (.v 5) (.v 5), .i (.v 6) (.v 6), .i (.v 10) (.v 10), .b (.v 0) (.v 0), .i (.v 11) (.v 11), .i ze2 ze2, .i (.v 13) (.v 13), .b (.v 1) (.v 1), .i (.v 14) ze1, .i (.v 15) (.v 15), .i (.v 16) (.v 16), .i (.v 17) (.v 17), .i (.v 18) (.v 18), .i (.v 19) (.v 19), .i ze3 ze3, .i ze4 ze4, .i (.v 1) (.v 1)] [((.lt (.c 0) (.v 20)), false), ((.le ze6 ze7), false), ((.lt ze5 (.v 22)), false), ((.le (.v 14) (.v 22)), false), ((.le (.c 1200) (.v 1)), true), ((.le (.v 1) (.c 1455)), true), ((.le (.c 2400) (.v 14)), true), ((.le (.v 14) (.c 200000)), true), ((.le (.c 0) (.v 20)), true), ((.le (.v 20) (.c 1000)), true), ((.le (.c 0) (.v 22)), true), ((.le (.v 22) (.c 1000000)), true), ((.le (.c (-1)) (.v 12)), true), ((.le (.v 12) (.c 1000)), true), ((.le (.c 2400) (.v 14)), true), ((.le (.v 14) (.c 190000)), true), ((.eq (.v 13) (.c (-1))), true), ((.eq (.v 15) (.c 4611686018427387903)), true)]
noncomputable def zls : List Vl := [zx0, zx1, zx2, zx3, zx4, zx5, zx6, zx7]
theorem zrun : (run (prmP Try.prog) 900 (enterD (prmP Try.prog) ct12)).map (vOf (prmP Try.prog) ct12 []) = zls := by kernel_rfl
-- 8 ways; terms: ze0, ze1, ze2, ze3, ze4, ze5, ze6, ze7

theorem ct12_ok : CtOk Try.prog fns ct12 := by
  refine ct_of_pts (p := prmP Try.prog) (pts := []) (n := 900) (c0 := enterD (prmP Try.prog) ct12) (fun E hE => prmP_ok E hE) rfl (by intro q hq; cases hq) Try.func12 (by kernel_rfl) (by intro t ht; cases ht) (fun _ _ _ => True) (fun _ _ _ => 0) zls zrun ?_ (by intro i t ht; simp at ht)
  intro E hE hF
  simp only [ct12, pacB, cwB, bd, List.cons_append, List.nil_append, facts_cons, facts_nil, le_t, eq_t, d_c, d_v, and_true] at hF
  obtain ⟨a1, a2, b1, b2, n1, n2, f1, f2, l1, l2, c1, c2, e1, e2⟩ := hF
  refine ⟨fun a ha => ?_, fun x hx => ?_⟩
  · obtain rfl := Option.some.inj ha
    simp only [bd, l2, l3, l4, l5, List.cons_append, List.nil_append, facts_cons, facts_nil, le_t, and_true, d_c, d_v, d_ap, d_sli, d_slnil, d_bv, d_bc, d_add, d_sub, d_mul, d_tdiv, d_tmod, d_wrap, d_mx, d_mn, hE, fnsf0, fnsf1, fnsf2, fnsf3, fnsf4, fnsf5]
    have := ackCw_ok (f := E.i 22) ⟨c1, c2⟩ ⟨a1, a2⟩; omega
  · unfold zls at hx
    simp only [List.mem_cons, List.not_mem_nil, or_false] at hx
    rcases hx with rfl | rfl | rfl | rfl | rfl | rfl | rfl | rfl
    all_goals
      intro hf
      simp only [facts_cons, facts_nil, lt_t, lt_f, le_t, le_f, eq_t, eq_f, and_true, d_c, d_v, d_ap, d_sli, d_slnil, d_bv, d_bc, d_add, d_sub, d_mul, d_tdiv, d_tmod, d_wrap, d_mx, d_mn, hE, fnsf0, fnsf1, fnsf2, fnsf3, fnsf4, fnsf5, ze0, ze1, ze2, ze3, ze4, ze5, ze6, ze7] at hf
      try (exfalso; omega)
    all_goals
      refine ⟨rfl, ?_⟩
      simp only [List.forall_mem_cons, List.not_mem_nil, false_imp_iff, implies_true, and_true, true_and, Eqn.ok, d_c, d_v, d_ap, d_sli, d_slnil, d_bv, d_bc, d_add, d_sub, d_mul, d_tdiv, d_tmod, d_wrap, d_mx, d_mn, hE, fnsf0, fnsf1, fnsf2, fnsf3, fnsf4, fnsf5, ze0, ze1, ze2, ze3, ze4, ze5, ze6, ze7]
      clear hE
      have h1 : (E.i 14).tdiv 2 = E.i 14 / 2 := tdn (by omega)
      try rw [h1] at hf
      unfold ackCw
      and_intros <;> (try rfl) <;> split <;> omega
end Go.Proofs.Ytlclcnkmdbmceaa
