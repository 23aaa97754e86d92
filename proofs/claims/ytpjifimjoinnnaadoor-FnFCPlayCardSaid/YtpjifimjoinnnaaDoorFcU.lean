/- Contracts of flow control's methods are kept. -/
import Derived.Test.YtpjifimjoinnnaaDoorFcS
import Derived.KernelRfl
set_option autoImplicit true
set_option relaxedAutoImplicit true
set_option linter.unusedVariables false
set_option linter.unusedSimpArgs false
set_option maxRecDepth 100000
set_option maxHeartbeats 8000000
namespace Go.Proofs.YtpjifimjoinnnaaDoor
open Go Go.Sy Go.RowKit
variable {E : Env}
noncomputable def be0 : SE := .add (.v 22) (.v 50)
noncomputable def be1 : SE := .sub (.v 23) be0
noncomputable def be2 : SE := .mul (.v 24) (.c 3)
noncomputable def be3 : SE := .tdiv be2 (.c 4)
noncomputable def be4 : SE := .add (.v 3) (.v 50)
noncomputable def be5 : SE := .sub (.v 4) be4
noncomputable def be6 : SE := .mul (.v 5) (.c 3)
noncomputable def be7 : SE := .tdiv be6 (.c 4)
noncomputable def bx0 : Vl := .out 0 [.b (.c false) (.and (.not (.v 2)) (.le be1 be3)), .b (.le be5 be7) (.le be5 be7), .i be4 be4, .i (.v 2) (.v 2), .i (.v 4) (.v 4), .i (.v 5) (.v 5), .i (.v 6) (.v 6), .i (.v 7) (.v 7), .i (.v 8) (.v 8), .i (.v 9) (.v 9), .i (.v 10) (.v 10), .i (.v 11) (.v 11), .i be0 be0, .i (.v 21) (.v 21), .i (.v 23) (.v 23), .i (.v 24) (.v 24), .i (.v 25) (.v 25), .i (.v 26) (.v 26), .i (.v 27) (.v 27), .i (.v 28) (.v 28), .i (.v 29) (.v 29), .i (.v 30) (.v 30), .i (.v 31) (.v 31), .b (.v 2) (.v 2)] [((.v 2), true), ((.le (.c 0) (.v 3)), true), ((.le (.v 3) (.c 1000000)), true), ((.le (.c 0) (.v 22)), true), ((.le (.v 22) (.c 1000000)), true), ((.le (.c 0) (.v 50)), true), ((.le (.v 50) (.c 1000000)), true), ((.le (.c 0) (.v 4)), true), ((.le (.v 4) (.c 1000000)), true), ((.le (.c 0) (.v 23)), true), ((.le (.v 23) (.c 1000000)), true), ((.le (.c 2) (.v 5)), true), ((.le (.v 5) (.c 1000000)), true), ((.le (.c 2) (.v 24)), true), ((.le (.v 24) (.c 1000000)), true)]
noncomputable def bx1 : Vl := .out 0 [.b (.le be1 be3) (.and (.not (.v 2)) (.le be1 be3)), .b (.le be5 be7) (.le be5 be7), .i be4 be4, .i (.v 2) (.v 2), .i (.v 4) (.v 4), .i (.v 5) (.v 5), .i (.v 6) (.v 6), .i (.v 7) (.v 7), .i (.v 8) (.v 8), .i (.v 9) (.v 9), .i (.v 10) (.v 10), .i (.v 11) (.v 11), .i be0 be0, .i (.v 21) (.v 21), .i (.v 23) (.v 23), .i (.v 24) (.v 24), .i (.v 25) (.v 25), .i (.v 26) (.v 26), .i (.v 27) (.v 27), .i (.v 28) (.v 28), .i (.v 29) (.v 29), .i (.v 30) (.v 30), .i (.v 31) (.v 31), .b (.v 2) (.v 2)] [((.v 2), false), ((.le (.c 0) (.v 3)), true), ((.le (.v 3) (.c 1000000)), true), ((.le (.c 0) (.v 22)), true), ((.le (.v 22) (.c 1000000)), true), ((.le (.c 0) (.v 50)), true), ((.le (.v 50) (.c 1000000)), true), ((.le (.c 0) (.v 4)), true), ((.le (.v 4) (.c 1000000)), true), ((.le (.c 0) (.v 23)), true), ((.le (.v 23) (.c 1000000)), true), ((.le (.c 2) (.v 5)), true), ((.le (.v 5) (.c 1000000)), true), ((.le (.c 2) (.v 24)), true), ((.le (.v 24) (.c 1000000)), true)]
noncomputable def bls : List Vl := [bx0, bx1]
theorem brun : (run (prmM Tryd.prog) 600 (enterD (prmM Tryd.prog) ct26)).map (vOf (prmM Tryd.prog) ct26 []) = bls := by kernel_rfl
-- 2 ways; terms: be0, be1, be2, be3, be4, be5, be6, be7
theorem ct26_ok : CtOk Tryd.prog fns ct26 := by
  refine ct_of_pts (p := prmM Tryd.prog) (pts := []) (n := 600) (c0 := enterD (prmM Tryd.prog) ct26) (fun E hE => prmM_ok E hE) rfl (by intro q hq; cases hq) Tryd.func26 (by kernel_rfl) (by intro t ht; cases ht) (fun _ _ _ => True) (fun _ _ _ => 0) bls brun ?_ (by intro i t ht; simp at ht)
  intro E hE hF
  simp only [ct26, bd, List.cons_append, List.nil_append, facts_cons, facts_nil, le_t, d_c, d_v, and_true] at hF
  refine ⟨noFacts (by simp [ct26]), fun x hx => ?_⟩
  unfold bls at hx
  simp only [List.mem_cons, List.not_mem_nil, or_false] at hx
  rcases hx with rfl | rfl
  all_goals
    intro hf
    cases h2 : E.b 2
  all_goals
    simp only [facts_cons, facts_nil, and_true, true_and, d_c, d_v, d_bv, le_t, h2, Bool.true_eq_false, Bool.false_eq_true, false_and] at hf
    try (exfalso; exact hf)
    try (exfalso; omega)
  all_goals
    refine ⟨?_, ?_⟩
    · simp only [ct26, altSel, d_bc, duB, if_true]
      repeat' split
      all_goals rfl
    · simp only [List.forall_mem_cons, List.not_mem_nil, false_imp_iff, implies_true, and_true, Eqn.ok]
      and_intros
      all_goals (rw [Bool.eq_iff_iff]; simp only [d_c, d_v, d_bv, d_bc, d_add, d_sub, d_mul, d_tdiv, and_t, not_t, le_t, h2, be0, be1, be2, be3, Bool.false_eq_true, Bool.true_eq_false, true_and, false_and]; done)
noncomputable def ce0 : SE := .sub (.v 21) (.v 22)
noncomputable def ce1 : SE := .add (.v 3) ce0
noncomputable def cx0 : Vl := .out 0 [.i ce1 ce1, .i (.v 2) (.v 2), .i (.v 4) (.v 4), .i (.v 5) (.v 5), .i (.v 6) (.v 6), .i (.v 7) (.v 7), .i (.v 8) (.v 8), .i (.v 9) (.v 9), .i (.v 10) (.v 10), .i (.v 11) (.v 11), .i (.v 21) (.v 21), .i (.v 21) (.v 21), .i (.v 23) (.v 23), .i (.v 24) (.v 24), .i (.v 25) (.v 25), .i (.v 26) (.v 26), .i (.v 27) (.v 27), .i (.v 28) (.v 28), .i (.v 29) (.v 29), .i (.v 30) (.v 30), .i (.v 31) (.v 31), .b (.v 2) (.v 2)] [((.lt (.c 0) ce0), true), ((.le (.c 0) (.v 3)), true), ((.le (.v 3) (.c 1000000)), true), ((.le (.c 0) (.v 4)), true), ((.le (.v 4) (.c 1000000)), true), ((.le (.c 2) (.v 5)), true), ((.le (.v 5) (.c 1000000)), true), ((.le (.c 0) (.v 21)), true), ((.le (.v 21) (.c 1000000)), true), ((.le (.c 0) (.v 22)), true), ((.le (.v 22) (.c 1000000)), true), ((.le (.v 22) (.v 21)), true)]
noncomputable def cx1 : Vl := .out 0 [.i (.v 3) ce1, .i (.v 2) (.v 2), .i (.v 4) (.v 4), .i (.v 5) (.v 5), .i (.v 6) (.v 6), .i (.v 7) (.v 7), .i (.v 8) (.v 8), .i (.v 9) (.v 9), .i (.v 10) (.v 10), .i (.v 11) (.v 11), .i (.v 21) (.v 21), .i (.v 21) (.v 21), .i (.v 23) (.v 23), .i (.v 24) (.v 24), .i (.v 25) (.v 25), .i (.v 26) (.v 26), .i (.v 27) (.v 27), .i (.v 28) (.v 28), .i (.v 29) (.v 29), .i (.v 30) (.v 30), .i (.v 31) (.v 31), .b (.v 2) (.v 2)] [((.lt (.c 0) ce0), false), ((.le (.c 0) (.v 3)), true), ((.le (.v 3) (.c 1000000)), true), ((.le (.c 0) (.v 4)), true), ((.le (.v 4) (.c 1000000)), true), ((.le (.c 2) (.v 5)), true), ((.le (.v 5) (.c 1000000)), true), ((.le (.c 0) (.v 21)), true), ((.le (.v 21) (.c 1000000)), true), ((.le (.c 0) (.v 22)), true), ((.le (.v 22) (.c 1000000)), true), ((.le (.v 22) (.v 21)), true)]
noncomputable def cls : List Vl := [cx0, cx1]
theorem crun : (run (prmM Tryd.prog) 600 (enterD (prmM Tryd.prog) ct27)).map (vOf (prmM Tryd.prog) ct27 []) = cls := by kernel_rfl
-- 2 ways; terms: ce0, ce1
theorem ct27_ok : CtOk Tryd.prog fns ct27 := by
  refine ct_of_pts (p := prmM Tryd.prog) (pts := []) (n := 600) (c0 := enterD (prmM Tryd.prog) ct27) (fun E hE => prmM_ok E hE) rfl (by intro q hq; cases hq) Tryd.func27 (by kernel_rfl) (by intro t ht; cases ht) (fun _ _ _ => True) (fun _ _ _ => 0) cls crun ?_ (by intro i t ht; simp at ht)
  intro E hE hF
  simp only [ct27, bd, List.cons_append, List.nil_append, facts_cons, facts_nil, le_t, d_c, d_v, and_true] at hF
  refine ⟨noFacts (by simp [ct27]), fun x hx => ?_⟩
  unfold cls at hx
  simp only [List.mem_cons, List.not_mem_nil, or_false] at hx
  rcases hx with rfl | rfl
  all_goals
    intro hf
    simp only [facts_cons, facts_nil, and_true, d_c, d_v, d_sub, le_t, lt_t, lt_f, ce0] at hf
    try (exfalso; exact hf)
    try (exfalso; omega)
  all_goals
    refine ⟨?_, ?_⟩
    · simp only [ct27, altSel, d_bc, if_true]
      repeat' split
      all_goals rfl
    · simp only [List.forall_mem_cons, List.not_mem_nil, false_imp_iff, implies_true, and_true, Eqn.ok]
      and_intros
      all_goals (simp only [d_v, d_add, d_sub, ce0, ce1]; omega)
noncomputable def fe0 : SE := .mx (.v 29) (.v 50)
noncomputable def fx0 : Vl := .out 0 [.b (.c true) (.lt (.v 29) (.v 50)), .i (.v 22) (.v 22), .i (.v 21) (.v 21), .i (.v 23) (.v 23), .i (.v 24) (.v 24), .i (.v 25) (.v 25), .i (.v 26) (.v 26), .i (.v 27) (.v 27), .i (.v 28) (.v 28), .i (.v 50) fe0, .i (.v 30) (.v 30), .i (.v 31) (.v 31), .b (.v 2) (.v 2)] [((.lt (.v 29) (.v 50)), true)]
noncomputable def fx1 : Vl := .out 0 [.b (.c false) (.lt (.v 29) (.v 50)), .i (.v 22) (.v 22), .i (.v 21) (.v 21), .i (.v 23) (.v 23), .i (.v 24) (.v 24), .i (.v 25) (.v 25), .i (.v 26) (.v 26), .i (.v 27) (.v 27), .i (.v 28) (.v 28), .i (.v 29) fe0, .i (.v 30) (.v 30), .i (.v 31) (.v 31), .b (.v 2) (.v 2)] [((.lt (.v 29) (.v 50)), false)]
noncomputable def fls : List Vl := [fx0, fx1]
theorem frun : (run (prmM Tryd.prog) 600 (enterD (prmM Tryd.prog) ct30)).map (vOf (prmM Tryd.prog) ct30 []) = fls := by kernel_rfl
-- 2 ways; terms: fe0
theorem ct30_ok : CtOk Tryd.prog fns ct30 := by
  refine ct_of_pts (p := prmM Tryd.prog) (pts := []) (n := 600) (c0 := enterD (prmM Tryd.prog) ct30) (fun E hE => prmM_ok E hE) rfl (by intro q hq; cases hq) Tryd.func30 (by kernel_rfl) (by intro t ht; cases ht) (fun _ _ _ => True) (fun _ _ _ => 0) fls frun ?_ (by intro i t ht; simp at ht)
  intro E hE hF
  simp only [ct30, facts_nil] at hF
  refine ⟨noFacts (by simp [ct30]), fun x hx => ?_⟩
  unfold fls at hx
  simp only [List.mem_cons, List.not_mem_nil, or_false] at hx
  rcases hx with rfl | rfl
  all_goals
    intro hf
    simp only [facts_cons, facts_nil, and_true, d_v, lt_t, lt_f] at hf
    try (exfalso; exact hf)
    try (exfalso; omega)
  all_goals
    refine ⟨?_, ?_⟩
    · simp only [ct30, altSel, d_bc, if_true]
      repeat' split
      all_goals rfl
    · simp only [List.forall_mem_cons, List.not_mem_nil, false_imp_iff, implies_true, and_true, true_and, Eqn.ok]
      and_intros
      all_goals first | (simp only [d_v, d_bc, d_mx, fe0, imx_max]; omega) | (rw [Bool.eq_iff_iff]; simp only [d_v, d_bc, lt_t, Bool.false_eq_true, false_iff, true_iff]; omega)
noncomputable def ge0 : SE := .mx (.v 10) (.v 50)
noncomputable def gx0 : Vl := .out 0 [.b (.c true) (.lt (.v 10) (.v 50)), .i (.v 3) (.v 3), .i (.v 2) (.v 2), .i (.v 4) (.v 4), .i (.v 5) (.v 5), .i (.v 6) (.v 6), .i (.v 7) (.v 7), .i (.v 8) (.v 8), .i (.v 9) (.v 9), .i (.v 50) ge0, .i (.v 11) (.v 11)] [((.lt (.v 10) (.v 50)), true)]
noncomputable def gx1 : Vl := .out 0 [.b (.c false) (.lt (.v 10) (.v 50)), .i (.v 3) (.v 3), .i (.v 2) (.v 2), .i (.v 4) (.v 4), .i (.v 5) (.v 5), .i (.v 6) (.v 6), .i (.v 7) (.v 7), .i (.v 8) (.v 8), .i (.v 9) (.v 9), .i (.v 10) ge0, .i (.v 11) (.v 11)] [((.lt (.v 10) (.v 50)), false)]
noncomputable def gls : List Vl := [gx0, gx1]
theorem grun : (run (prmM Tryd.prog) 600 (enterD (prmM Tryd.prog) ct22)).map (vOf (prmM Tryd.prog) ct22 []) = gls := by kernel_rfl
-- 2 ways; terms: ge0
theorem ct22_ok : CtOk Tryd.prog fns ct22 := by
  refine ct_of_pts (p := prmM Tryd.prog) (pts := []) (n := 600) (c0 := enterD (prmM Tryd.prog) ct22) (fun E hE => prmM_ok E hE) rfl (by intro q hq; cases hq) Tryd.func22 (by kernel_rfl) (by intro t ht; cases ht) (fun _ _ _ => True) (fun _ _ _ => 0) gls grun ?_ (by intro i t ht; simp at ht)
  intro E hE hF
  simp only [ct22, facts_nil] at hF
  refine ⟨noFacts (by simp [ct22]), fun x hx => ?_⟩
  unfold gls at hx
  simp only [List.mem_cons, List.not_mem_nil, or_false] at hx
  rcases hx with rfl | rfl
  all_goals
    intro hf
    simp only [facts_cons, facts_nil, and_true, d_v, lt_t, lt_f] at hf
    try (exfalso; exact hf)
    try (exfalso; omega)
  all_goals
    refine ⟨?_, ?_⟩
    · simp only [ct22, altSel, d_bc, if_true]
      repeat' split
      all_goals rfl
    · simp only [List.forall_mem_cons, List.not_mem_nil, false_imp_iff, implies_true, and_true, true_and, Eqn.ok]
      and_intros
      all_goals first | (simp only [d_v, d_bc, d_mx, ge0, imx_max]; omega) | (rw [Bool.eq_iff_iff]; simp only [d_v, d_bc, lt_t, Bool.false_eq_true, false_iff, true_iff]; omega)
noncomputable def he0 : SE := .add (.v 9) (.v 50)
noncomputable def he1 : SE := .add (.v 28) (.v 50)
noncomputable def he2 : SE := .sub (.v 29) (.v 28)
noncomputable def he3 : SE := .sub (.v 10) (.v 9)
noncomputable def hx0 : Vl := .out 0 [.b (.c false) (.c true), .i (.v 3) (.v 3), .i (.v 2) (.v 2), .i (.v 4) (.v 4), .i (.v 5) (.v 5), .i (.v 6) (.v 6), .i (.v 7) (.v 7), .i (.v 8) (.v 8), .i (.v 9) he0, .i (.v 10) (.v 10), .i (.v 11) (.v 11), .i (.v 22) (.v 22), .i (.v 21) (.v 21), .i (.v 23) (.v 23), .i (.v 24) (.v 24), .i (.v 25) (.v 25), .i (.v 26) (.v 26), .i (.v 27) (.v 27), .i (.v 28) he1, .i (.v 29) (.v 29), .i (.v 30) (.v 30), .i (.v 31) (.v 31), .b (.v 2) (.v 2)] [((.lt (.v 29) (.v 28)), true), ((.le (.c 0) (.v 28)), true), ((.le (.v 28) (.c 1000000)), true), ((.le (.c 0) (.v 29)), true), ((.le (.v 29) (.c 1000000)), true), ((.le (.c 0) (.v 9)), true), ((.le (.v 9) (.c 1000000)), true), ((.le (.c 0) (.v 10)), true), ((.le (.v 10) (.c 1000000)), true), ((.le (.c 0) (.v 50)), true), ((.le (.v 50) (.c 1000000)), true), ((.le he1 (.v 29)), true), ((.le he0 (.v 10)), true)]
noncomputable def hx1 : Vl := .out 0 [.b (.c false) (.c true), .i (.v 3) (.v 3), .i (.v 2) (.v 2), .i (.v 4) (.v 4), .i (.v 5) (.v 5), .i (.v 6) (.v 6), .i (.v 7) (.v 7), .i (.v 8) (.v 8), .i (.v 9) he0, .i (.v 10) (.v 10), .i (.v 11) (.v 11), .i (.v 22) (.v 22), .i (.v 21) (.v 21), .i (.v 23) (.v 23), .i (.v 24) (.v 24), .i (.v 25) (.v 25), .i (.v 26) (.v 26), .i (.v 27) (.v 27), .i (.v 28) he1, .i (.v 29) (.v 29), .i (.v 30) (.v 30), .i (.v 31) (.v 31), .b (.v 2) (.v 2)] [((.lt he2 (.v 50)), true), ((.lt (.v 29) (.v 28)), false), ((.le (.c 0) (.v 28)), true), ((.le (.v 28) (.c 1000000)), true), ((.le (.c 0) (.v 29)), true), ((.le (.v 29) (.c 1000000)), true), ((.le (.c 0) (.v 9)), true), ((.le (.v 9) (.c 1000000)), true), ((.le (.c 0) (.v 10)), true), ((.le (.v 10) (.c 1000000)), true), ((.le (.c 0) (.v 50)), true), ((.le (.v 50) (.c 1000000)), true), ((.le he1 (.v 29)), true), ((.le he0 (.v 10)), true)]
noncomputable def hx2 : Vl := .out 0 [.b (.c false) (.c true), .i (.v 3) (.v 3), .i (.v 2) (.v 2), .i (.v 4) (.v 4), .i (.v 5) (.v 5), .i (.v 6) (.v 6), .i (.v 7) (.v 7), .i (.v 8) (.v 8), .i (.v 9) he0, .i (.v 10) (.v 10), .i (.v 11) (.v 11), .i (.v 22) (.v 22), .i (.v 21) (.v 21), .i (.v 23) (.v 23), .i (.v 24) (.v 24), .i (.v 25) (.v 25), .i (.v 26) (.v 26), .i (.v 27) (.v 27), .i (.v 28) he1, .i (.v 29) (.v 29), .i (.v 30) (.v 30), .i (.v 31) (.v 31), .b (.v 2) (.v 2)] [((.lt (.v 10) (.v 9)), true), ((.lt he2 (.v 50)), false), ((.lt (.v 29) (.v 28)), false), ((.le (.c 0) (.v 28)), true), ((.le (.v 28) (.c 1000000)), true), ((.le (.c 0) (.v 29)), true), ((.le (.v 29) (.c 1000000)), true), ((.le (.c 0) (.v 9)), true), ((.le (.v 9) (.c 1000000)), true), ((.le (.c 0) (.v 10)), true), ((.le (.v 10) (.c 1000000)), true), ((.le (.c 0) (.v 50)), true), ((.le (.v 50) (.c 1000000)), true), ((.le he1 (.v 29)), true), ((.le he0 (.v 10)), true)]
noncomputable def hx3 : Vl := .out 0 [.b (.c false) (.c true), .i (.v 3) (.v 3), .i (.v 2) (.v 2), .i (.v 4) (.v 4), .i (.v 5) (.v 5), .i (.v 6) (.v 6), .i (.v 7) (.v 7), .i (.v 8) (.v 8), .i (.v 9) he0, .i (.v 10) (.v 10), .i (.v 11) (.v 11), .i (.v 22) (.v 22), .i (.v 21) (.v 21), .i (.v 23) (.v 23), .i (.v 24) (.v 24), .i (.v 25) (.v 25), .i (.v 26) (.v 26), .i (.v 27) (.v 27), .i (.v 28) he1, .i (.v 29) (.v 29), .i (.v 30) (.v 30), .i (.v 31) (.v 31), .b (.v 2) (.v 2)] [((.lt he3 (.v 50)), true), ((.lt (.v 10) (.v 9)), false), ((.lt he2 (.v 50)), false), ((.lt (.v 29) (.v 28)), false), ((.le (.c 0) (.v 28)), true), ((.le (.v 28) (.c 1000000)), true), ((.le (.c 0) (.v 29)), true), ((.le (.v 29) (.c 1000000)), true), ((.le (.c 0) (.v 9)), true), ((.le (.v 9) (.c 1000000)), true), ((.le (.c 0) (.v 10)), true), ((.le (.v 10) (.c 1000000)), true), ((.le (.c 0) (.v 50)), true), ((.le (.v 50) (.c 1000000)), true), ((.le he1 (.v 29)), true), ((.le he0 (.v 10)), true)]
noncomputable def hx4 : Vl := .out 0 [.i (.v 3) (.v 3), .i (.v 2) (.v 2), .i (.v 4) (.v 4), .i (.v 5) (.v 5), .i (.v 6) (.v 6), .i (.v 7) (.v 7), .i (.v 8) (.v 8), .i he0 he0, .i (.v 10) (.v 10), .i (.v 11) (.v 11), .i (.v 22) (.v 22), .i (.v 21) (.v 21), .i (.v 23) (.v 23), .i (.v 24) (.v 24), .i (.v 25) (.v 25), .i (.v 26) (.v 26), .i (.v 27) (.v 27), .i he1 he1, .i (.v 29) (.v 29), .i (.v 30) (.v 30), .i (.v 31) (.v 31), .b (.v 2) (.v 2)] [((.lt he3 (.v 50)), false), ((.lt (.v 10) (.v 9)), false), ((.lt he2 (.v 50)), false), ((.lt (.v 29) (.v 28)), false), ((.le (.c 0) (.v 28)), true), ((.le (.v 28) (.c 1000000)), true), ((.le (.c 0) (.v 29)), true), ((.le (.v 29) (.c 1000000)), true), ((.le (.c 0) (.v 9)), true), ((.le (.v 9) (.c 1000000)), true), ((.le (.c 0) (.v 10)), true), ((.le (.v 10) (.c 1000000)), true), ((.le (.c 0) (.v 50)), true), ((.le (.v 50) (.c 1000000)), true), ((.le he1 (.v 29)), true), ((.le he0 (.v 10)), true)]
noncomputable def hls : List Vl := [hx0, hx1, hx2, hx3, hx4]
theorem hrun : (run (prmM Tryd.prog) 600 (enterD (prmM Tryd.prog) ct31)).map (vOf (prmM Tryd.prog) ct31 []) = hls := by kernel_rfl
-- 5 ways; terms: he0, he1, he2, he3
theorem ct31_ok : CtOk Tryd.prog fns ct31 := by
  refine ct_of_pts (p := prmM Tryd.prog) (pts := []) (n := 600) (c0 := enterD (prmM Tryd.prog) ct31) (fun E hE => prmM_ok E hE) rfl (by intro q hq; cases hq) Tryd.func31 (by kernel_rfl) (by intro t ht; cases ht) (fun _ _ _ => True) (fun _ _ _ => 0) hls hrun ?_ (by intro i t ht; simp at ht)
  intro E hE hF
  simp only [ct31, bd, List.cons_append, List.nil_append, facts_cons, facts_nil, le_t, d_c, d_v, d_add, and_true] at hF
  refine ⟨noFacts (by simp [ct31]), fun x hx => ?_⟩
  unfold hls at hx
  simp only [List.mem_cons, List.not_mem_nil, or_false] at hx
  rcases hx with rfl | rfl | rfl | rfl | rfl
  all_goals
    intro hf
    simp only [facts_cons, facts_nil, and_true, d_c, d_v, d_add, d_sub, le_t, lt_t, lt_f, he0, he1, he2, he3] at hf
    try (exfalso; exact hf)
    try (exfalso; omega)
  all_goals
    refine ⟨?_, ?_⟩
    · simp only [ct31, altSel, d_bc, if_true]
      repeat' split
      all_goals rfl
    · simp only [List.forall_mem_cons, List.not_mem_nil, false_imp_iff, implies_true, and_true, Eqn.ok]
      and_intros
      all_goals fail
noncomputable def ie0 : SE := .ite (.lt (.v 28) (.v 29)) (.v 30) (.v 29)
noncomputable def ix0 : Vl := .out 0 [.b (.c false) (.and (.not (.lt (.v 28) (.v 29))) (.not (.eq (.v 29) (.v 30)))), .i (.v 22) (.v 22), .i (.v 21) (.v 21), .i (.v 23) (.v 23), .i (.v 24) (.v 24), .i (.v 25) (.v 25), .i (.v 26) (.v 26), .i (.v 27) (.v 27), .i (.v 28) (.v 28), .i (.v 29) (.v 29), .i (.v 30) ie0, .i (.v 31) (.v 31), .b (.v 2) (.v 2)] [((.lt (.v 28) (.v 29)), true)]
noncomputable def ix1 : Vl := .out 0 [.b (.c false) (.and (.not (.lt (.v 28) (.v 29))) (.not (.eq (.v 29) (.v 30)))), .i (.v 22) (.v 22), .i (.v 21) (.v 21), .i (.v 23) (.v 23), .i (.v 24) (.v 24), .i (.v 25) (.v 25), .i (.v 26) (.v 26), .i (.v 27) (.v 27), .i (.v 28) (.v 28), .i (.v 29) (.v 29), .i (.v 30) ie0, .i (.v 31) (.v 31), .b (.v 2) (.v 2)] [((.eq (.v 29) (.v 30)), true), ((.lt (.v 28) (.v 29)), false)]
noncomputable def ix2 : Vl := .out 0 [.b (.c true) (.and (.not (.lt (.v 28) (.v 29))) (.not (.eq (.v 29) (.v 30)))), .i (.v 22) (.v 22), .i (.v 21) (.v 21), .i (.v 23) (.v 23), .i (.v 24) (.v 24), .i (.v 25) (.v 25), .i (.v 26) (.v 26), .i (.v 27) (.v 27), .i (.v 28) (.v 28), .i (.v 29) (.v 29), .i (.v 29) ie0, .i (.v 31) (.v 31), .b (.v 2) (.v 2)] [((.eq (.v 29) (.v 30)), false), ((.lt (.v 28) (.v 29)), false)]
noncomputable def ils : List Vl := [ix0, ix1, ix2]
theorem irun : (run (prmM Tryd.prog) 600 (enterD (prmM Tryd.prog) ct33)).map (vOf (prmM Tryd.prog) ct33 []) = ils := by kernel_rfl
-- 3 ways; terms: ie0
theorem ct33_ok : CtOk Tryd.prog fns ct33 := by
  refine ct_of_pts (p := prmM Tryd.prog) (pts := []) (n := 600) (c0 := enterD (prmM Tryd.prog) ct33) (fun E hE => prmM_ok E hE) rfl (by intro q hq; cases hq) Tryd.func33 (by kernel_rfl) (by intro t ht; cases ht) (fun _ _ _ => True) (fun _ _ _ => 0) ils irun ?_ (by intro i t ht; simp at ht)
  intro E hE hF
  simp only [ct33, facts_nil] at hF
  refine ⟨noFacts (by simp [ct33]), fun x hx => ?_⟩
  unfold ils at hx
  simp only [List.mem_cons, List.not_mem_nil, or_false] at hx
  rcases hx with rfl | rfl | rfl
  all_goals
    intro hf
    simp only [facts_cons, facts_nil, and_true, d_v, lt_t, lt_f, eq_t, eq_f, ne_eq] at hf
    try (exfalso; exact hf)
    try (exfalso; omega)
  all_goals
    refine ⟨?_, ?_⟩
    · simp only [ct33, altSel, d_bc, if_true]
      repeat' split
      all_goals rfl
    · simp only [List.forall_mem_cons, List.not_mem_nil, false_imp_iff, implies_true, and_true, true_and, Eqn.ok]
      and_intros
      all_goals first | (simp only [d_v, d_bc, d_ite, lt_t, ie0]; omega) | (rw [Bool.eq_iff_iff]; simp only [d_v, d_bc, and_t, not_t, lt_f, eq_f, Bool.false_eq_true, ne_eq, false_iff, true_iff]; omega)
noncomputable def je0 : SE := .ite (.and (.not (.lt (.v 9) (.v 10))) (.not (.eq (.v 10) (.v 11)))) (.v 10) (.c 0)
noncomputable def je1 : SE := .ite (.lt (.v 9) (.v 10)) (.v 11) (.v 10)
noncomputable def jx0 : Vl := .out 0 [.b (.c false) (.and (.not (.lt (.v 9) (.v 10))) (.not (.eq (.v 10) (.v 11)))), .i (.c 0) je0, .i (.v 3) (.v 3), .i (.v 2) (.v 2), .i (.v 4) (.v 4), .i (.v 5) (.v 5), .i (.v 6) (.v 6), .i (.v 7) (.v 7), .i (.v 8) (.v 8), .i (.v 9) (.v 9), .i (.v 10) (.v 10), .i (.v 11) je1] [((.lt (.v 9) (.v 10)), true)]
noncomputable def jx1 : Vl := .out 0 [.b (.c false) (.and (.not (.lt (.v 9) (.v 10))) (.not (.eq (.v 10) (.v 11)))), .i (.c 0) je0, .i (.v 3) (.v 3), .i (.v 2) (.v 2), .i (.v 4) (.v 4), .i (.v 5) (.v 5), .i (.v 6) (.v 6), .i (.v 7) (.v 7), .i (.v 8) (.v 8), .i (.v 9) (.v 9), .i (.v 10) (.v 10), .i (.v 11) je1] [((.eq (.v 10) (.v 11)), true), ((.lt (.v 9) (.v 10)), false)]
noncomputable def jx2 : Vl := .out 0 [.b (.c true) (.and (.not (.lt (.v 9) (.v 10))) (.not (.eq (.v 10) (.v 11)))), .i (.v 10) je0, .i (.v 3) (.v 3), .i (.v 2) (.v 2), .i (.v 4) (.v 4), .i (.v 5) (.v 5), .i (.v 6) (.v 6), .i (.v 7) (.v 7), .i (.v 8) (.v 8), .i (.v 9) (.v 9), .i (.v 10) (.v 10), .i (.v 10) je1] [((.eq (.v 10) (.v 11)), false), ((.lt (.v 9) (.v 10)), false)]
noncomputable def jls : List Vl := [jx0, jx1, jx2]
theorem jrun : (run (prmM Tryd.prog) 600 (enterD (prmM Tryd.prog) ct34)).map (vOf (prmM Tryd.prog) ct34 []) = jls := by kernel_rfl
-- 3 ways; terms: je0, je1
theorem ct34_ok : CtOk Tryd.prog fns ct34 := by
  refine ct_of_pts (p := prmM Tryd.prog) (pts := []) (n := 600) (c0 := enterD (prmM Tryd.prog) ct34) (fun E hE => prmM_ok E hE) rfl (by intro q hq; cases hq) Tryd.func34 (by kernel_rfl) (by intro t ht; cases ht) (fun _ _ _ => True) (fun _ _ _ => 0) jls jrun ?_ (by intro i t ht; simp at ht)
  intro E hE hF
  simp only [ct34, facts_nil] at hF
  refine ⟨noFacts (by simp [ct34]), fun x hx => ?_⟩
  unfold jls at hx
  simp only [List.mem_cons, List.not_mem_nil, or_false] at hx
  rcases hx with rfl | rfl | rfl
  all_goals
    intro hf
    simp only [facts_cons, facts_nil, and_true, d_v, lt_t, lt_f, eq_t, eq_f, ne_eq] at hf
    try (exfalso; exact hf)
    try (exfalso; omega)
  all_goals
    refine ⟨?_, ?_⟩
    · simp only [ct34, altSel, d_bc, if_true]
      repeat' split
      all_goals rfl
    · simp only [List.forall_mem_cons, List.not_mem_nil, false_imp_iff, implies_true, and_true, true_and, Eqn.ok]
      and_intros
      all_goals first | (simp only [d_c, d_v, d_bc, d_ite, and_t, not_t, lt_t, lt_f, eq_f, je0, je1]; omega) | (rw [Bool.eq_iff_iff]; simp only [d_v, d_bc, and_t, not_t, lt_f, eq_f, Bool.false_eq_true, ne_eq, false_iff, true_iff]; omega)
end Go.Proofs.YtpjifimjoinnnaaDoor
