/- The plain rule's step keeps its contract. -/
import Derived.Test.YtpjifimjoinnnaaDoorFcG
import Derived.Test.YtpjifimjoinnnaaDoorFcR
import Derived.KernelRfl
set_option autoImplicit true
set_option relaxedAutoImplicit true
set_option linter.unusedVariables false
set_option linter.unusedSimpArgs false
set_option maxRecDepth 100000
set_option maxHeartbeats 4000000
namespace Go.Proofs.YtpjifimjoinnnaaDoor
open Go Go.Sy Go.RowKit
variable {E : Env}
theorem g7_10 (hE : E.fn = fns) (hp : R7 E) : ∀ x ∈ ([sx91, sx92, sx93] : List Vl), VOk [] ct7 (fun _ _ _ => True) (fun _ _ _ => 0) none E E x := by
  obtain ⟨r, ix0, ix1, ix2, ix3, ix4, ix5, ix6, ix7, ix8, ix9, ix10, ix11⟩ := hp
  intro x hx
  simp only [List.mem_cons, List.not_mem_nil, or_false] at hx
  rcases hx with rfl | rfl | rfl
  all_goals
    intro hf
    simp only [facts_cons, sf53, sf51, sf49, sf41, sf28, sf54, lt_t, lt_f, eq_t, eq_f, d_c, d_v, d_c] at hf
    try (simp (disch := omega) only [Int.tdiv_eq_ediv_of_nonneg] at hf)
    have hK : (xE E).k = 10 := by show E.i 60 = _; omega
    have hK2 : E.i 60 = 10 := hK
    have hst := stp10 (g := 0) (s := sE E) hK
    refine ⟨rfl, out7 hE hst (code7 hK (by decide)) (by rw [num_10 hK]; (simp only [newB, sE, cE7, d_c, d_v]; omega)) (by refine nz_if ?_; rw [is_10 hK]; simp only [newB, sE, cE7, d_bc, ne_eq, Int.not_lt, Bool.false_eq_true, false_iff, true_iff]; (try simp (disch := omega) only [Int.tdiv_eq_ediv_of_nonneg]); (try omega)) (also7 hK (by decide)) ?_ ?_ ?_ ?_ ?_ ?_ ?_ ?_ ?_ ?_ ?_ ?_ ?_ ?_ (by (rw [if_neg (by omega)]; rfl)) (by rw [hK2]; show E.b 12 = _; cases E.b 12 <;> rfl) (fun j => (toP_get (E.a 0) j).symm)⟩
    all_goals first | rfl | (simp only [blkP, sE, cE7, xE, toP, se5, se6, se7, se9, se10, d_c, d_v, d_add, d_mul, d_rd, d_av, ix2, ix3]; first | done | omega) | (simp only [comeP, comeC, upP, enP, blkP, newB, sE, cE7, xE, toP, P1.get, set_self, se0, se1, se2, se3, se4, se5, se6, se7, se8, se9, se10, se11, se12, se13, se14, se15, se16, se17, se18, se19, se20, se21, se22, se23, se24, se25, d_c, d_v, d_ap, d_sli, d_slnil, d_bv, d_bc, d_bap, d_add, d_sub, d_mul, d_tdiv, d_mx, d_mn, d_ite, d_rd, d_av, d_up, ix0, ix1, ix2, ix3, ix4, ix5, ix6, ix7, ix8, ix9, ix10, ix11, imx_max, imn_min, hE, b1000, b1001, b1002, g1001, g1002, flw_def, limQ_def, limF_def, limW_def, lim4_def, upZ, upT, upF, upW, upO, enZ, enT, enF, enE, coT, coF, duE, grE, fastE]; (try simp (disch := omega) only [Int.tdiv_eq_ediv_of_nonneg]); (repeat' split) <;> fail)
theorem g7_11 (hE : E.fn = fns) (hp : R7 E) : ∀ x ∈ ([sx94] : List Vl), VOk [] ct7 (fun _ _ _ => True) (fun _ _ _ => 0) none E E x := by
  obtain ⟨r, ix0, ix1, ix2, ix3, ix4, ix5, ix6, ix7, ix8, ix9, ix10, ix11⟩ := hp
  intro x hx
  simp only [List.mem_cons, List.not_mem_nil, or_false] at hx
  rcases hx with rfl
  all_goals
    intro hf
    simp only [facts_cons, sf53, sf51, sf49, sf41, sf28, eq_t, eq_f, d_c, d_v, d_c] at hf
    try (simp (disch := omega) only [Int.tdiv_eq_ediv_of_nonneg] at hf)
    have hK : (xE E).k = 11 := by show E.i 60 = _; omega
    have hK2 : E.i 60 = 11 := hK
    have hst := stp11 (g := 0) (s := sE E) hK
    refine ⟨rfl, out7 hE hst (code7 hK (by decide)) (num7 hK (by decide)) (is7 hK (by decide)) (also7 hK (by decide)) ?_ ?_ ?_ ?_ ?_ ?_ ?_ ?_ ?_ ?_ ?_ ?_ ?_ ?_ (by (rw [if_pos hK2]; rfl)) (by rw [hK2]; show true = _; cases E.b 12 <;> rfl) (fun j => (toP_get (E.a 0) j).symm)⟩
    all_goals first | rfl | (simp only [sE, cE7, xE, toP, se5, se6, se7, se9, se10, d_c, d_v, d_add, d_mul, d_rd, d_av, ix2, ix3]; done)
theorem g7_11exf (hE : E.fn = fns) (hp : R7 E) : ∀ x ∈ ([sx95] : List Vl), VOk [] ct7 (fun _ _ _ => True) (fun _ _ _ => 0) none E E x := by
  obtain ⟨r, ix0, ix1, ix2, ix3, ix4, ix5, ix6, ix7, ix8, ix9, ix10, ix11⟩ := hp
  intro x hx
  simp only [List.mem_cons, List.not_mem_nil, or_false] at hx
  rcases hx with rfl
  all_goals
    intro hf
    simp only [facts_cons, sf53, sf51, sf49, sf41, sf28, eq_f, d_c, d_v, d_c] at hf
    try (simp (disch := omega) only [Int.tdiv_eq_ediv_of_nonneg] at hf)
    exfalso; omega
theorem g7_2 (hE : E.fn = fns) (hp : R7 E) : ∀ x ∈ ([sx51] : List Vl), VOk [] ct7 (fun _ _ _ => True) (fun _ _ _ => 0) none E E x := by
  obtain ⟨r, ix0, ix1, ix2, ix3, ix4, ix5, ix6, ix7, ix8, ix9, ix10, ix11⟩ := hp
  intro x hx
  simp only [List.mem_cons, List.not_mem_nil, or_false] at hx
  rcases hx with rfl
  all_goals
    intro hf
    simp only [facts_cons, sf28, eq_t, eq_f, d_c, d_v, d_c] at hf
    try (simp (disch := omega) only [Int.tdiv_eq_ediv_of_nonneg] at hf)
    have hK : (xE E).k = 2 := by show E.i 60 = _; omega
    have hK2 : E.i 60 = 2 := hK
    have hst := stp20 (s := sE E) hK
    refine ⟨rfl, out7 hE hst (code7 hK (by decide)) (num7 hK (by decide)) (is7 hK (by decide)) (also7 hK (by decide)) ?_ ?_ ?_ ?_ ?_ ?_ ?_ ?_ ?_ ?_ ?_ ?_ ?_ ?_ (by (rw [if_neg (by omega)]; rfl)) (by rw [hK2]; show E.b 12 = _; cases E.b 12 <;> rfl) (fun j => ?_)⟩
    rotate_right
    · refine arr_set (S := (E.i 61).toNat) (a := E.a 0) ?_ ?_ ?_ ?_ ?_ ?_ ?_ ?_ ?_ ?_ ?_ ?_ (fun j hj => ?_) (sE E) rfl j
      any_goals (simp only [se5, se69, se70, d_c, d_v, d_add, d_mul, d_av, d_up, ix11, Nat.add_left_cancel_iff, Nat.left_eq_add, Nat.reduceEqDiff, reduceIte]; first | done | rfl | skip)
      all_goals omega
    all_goals first | rfl | (simp only [sE, cE7, xE, toP, set_self, se5, se6, se7, se9, se10, se26, se29, se30, se67, se68, d_c, d_v, d_add, d_sub, d_mul, d_rd, d_av, ix0, ix1, ix2, ix3]; done)
theorem g7_3dead (hE : E.fn = fns) (hp : R7 E) : ∀ x ∈ ([sx58, sx59, sx60, sx61, sx62, sx63, sx64] : List Vl), VOk [] ct7 (fun _ _ _ => True) (fun _ _ _ => 0) none E E x := by
  obtain ⟨r, ix0, ix1, ix2, ix3, ix4, ix5, ix6, ix7, ix8, ix9, ix10, ix11⟩ := hp
  intro x hx
  simp only [List.mem_cons, List.not_mem_nil, or_false] at hx
  rcases hx with rfl | rfl | rfl | rfl | rfl | rfl | rfl
  all_goals
    intro hf
    simp only [facts_cons, sf35, sf34, sf33, sf32, sf31, sf30, sf29, sf28, le_t, le_f, lt_t, lt_f, eq_t, eq_f, d_c, d_v, d_ap, d_sli, d_slnil, d_bap, d_add, d_sub, d_mul, d_tdiv, d_rd, d_av, ix1, ix2, ix3, ix6, ix10, hE, b1000, b1001, b1002, g1001, g1002, flw_def, limQ_def, limF_def, limW_def, lim4_def, se5, se6, se7, se9, se10, se27, se28, se29, se30, se35, se36, se60, se61, se84, se85, se86, se87, se88, se89, se90, se91, se92, se93] at hf
    try (simp (disch := omega) only [Int.tdiv_eq_ediv_of_nonneg] at hf)
    obtain ⟨L1, L2, L3, L4, L5, L6⟩ := lim4_ok (rd := E.a 0 (12 * (E.i 61).toNat + 1) - E.a 0 (12 * (E.i 61).toNat + 6)) (sz := E.a 0 (12 * (E.i 61).toNat + 3)) (rtt := E.i 40) (by omega) (by omega) (by omega)
    first | omega | (simp only [L1, L2, L3, L4, Bool.true_eq_false, false_and] at hf; done)
theorem g7_3f (hE : E.fn = fns) (hp : R7 E) : ∀ x ∈ ([sx71] : List Vl), VOk [] ct7 (fun _ _ _ => True) (fun _ _ _ => 0) none E E x := by
  obtain ⟨r, ix0, ix1, ix2, ix3, ix4, ix5, ix6, ix7, ix8, ix9, ix10, ix11⟩ := hp
  intro x hx
  simp only [List.mem_cons, List.not_mem_nil, or_false] at hx
  rcases hx with rfl
  all_goals
    intro hf
    simp only [facts_cons, sf29, sf28, eq_t, eq_f, d_c, d_v, d_add, d_mul, d_rd, d_av, ix10, se5, se27, se28] at hf
    try (simp (disch := omega) only [Int.tdiv_eq_ediv_of_nonneg] at hf)
    have hK : (xE E).k = 3 := by show E.i 60 = _; omega
    have hK2 : E.i 60 = 3 := hK
    have T6 : ((sE E).p (xE E).S.toNat).fin ≠ 0 := by show E.a 0 (12 * (E.i 61).toNat + 10) ≠ 0; omega
    have hst := stp3a (g := 0) hK T6
    refine ⟨rfl, out7 hE hst (code7 hK (by decide)) (by rw [num_3a hK T6]; rfl) (is7 hK (by decide)) (also7 hK (by decide)) ?_ ?_ ?_ ?_ ?_ ?_ ?_ ?_ ?_ ?_ ?_ ?_ ?_ ?_ (by (rw [if_neg (by omega)]; rfl)) (by rw [hK2]; show E.b 12 = _; cases E.b 12 <;> rfl) (fun j => (toP_get (E.a 0) j).symm)⟩
    all_goals first | rfl | (simp only [sE, cE7, xE, toP, se5, se6, se7, se9, se10, d_c, d_v, d_add, d_mul, d_rd, d_av, ix2, ix3]; done)
theorem g7_3t (hE : E.fn = fns) (hp : R7 E) : ∀ x ∈ ([sx52, sx53, sx54, sx55, sx56, sx57, sx65, sx66, sx67, sx68, sx69, sx70] : List Vl), VOk [] ct7 (fun _ _ _ => True) (fun _ _ _ => 0) none E E x := by
  obtain ⟨r, ix0, ix1, ix2, ix3, ix4, ix5, ix6, ix7, ix8, ix9, ix10, ix11⟩ := hp
  intro x hx
  simp only [List.mem_cons, List.not_mem_nil, or_false] at hx
  rcases hx with rfl | rfl | rfl | rfl | rfl | rfl | rfl | rfl | rfl | rfl | rfl | rfl
  all_goals
    intro hf
    simp only [facts_cons, sf37, sf36, sf35, sf34, sf33, sf32, sf31, sf30, sf29, sf28, sf38, sf39, sf40, le_t, le_f, lt_t, lt_f, eq_t, eq_f, d_c, d_v, d_ap, d_sli, d_slnil, d_bap, d_add, d_sub, d_mul, d_tdiv, d_mx, d_mn, d_rd, d_av, ix1, ix2, ix3, ix4, ix5, ix6, ix10, hE, b1000, b1001, b1002, g1001, g1002, flw_def, limQ_def, limF_def, limW_def, lim4_def, imx_max, imn_min, se5, se6, se7, se9, se10, se27, se28, se29, se30, se31, se32, se33, se34, se35, se36, se60, se61, se71, se72, se73, se75, se76, se83, se84, se85, se86, se87, se88, se89, se90, se91, se92, se93, se95] at hf
    try (simp (disch := omega) only [Int.tdiv_eq_ediv_of_nonneg] at hf)
    have hK : (xE E).k = 3 := by show E.i 60 = _; omega
    have hK2 : E.i 60 = 3 := hK
    have T6 : ((sE E).p (xE E).S.toNat).fin = 0 := by show E.a 0 (12 * (E.i 61).toNat + 10) = 0; omega
    have hst := stp3b (g := 0) hK T6
    refine ⟨rfl, out7 hE hst (code7 hK (by decide)) (by rw [num_3b hK T6]; first | (simp only [sE, cE7, xE, toP, se5, se9, se10, se29, se30, se31, se32, se71, se72, se73, se74, se94, d_c, d_v, d_add, d_mul, d_mx, d_mn, d_rd, d_av, ix1, ix3, ix4, imx_max, imn_min]; omega) | (simp only [sE, cE7, xE, toP, se5, se9, se10, se29, se30, se31, se32, se71, se72, se73, se74, se94, d_c, d_v, d_add, d_mul, d_mx, d_mn, d_rd, d_av, ix1, ix3, ix4, imx_max, imn_min, upZ, upO, duE, grE, fastE]; (try simp (disch := omega) only [Int.tdiv_eq_ediv_of_nonneg]); (repeat' split) <;> omega)) (is7 hK (by decide)) (also7 hK (by decide)) ?_ ?_ ?_ ?_ ?_ ?_ ?_ ?_ ?_ ?_ ?_ ?_ ?_ ?_ (by (rw [if_neg (by omega)]; rfl)) (by rw [hK2]; show E.b 12 = _; cases E.b 12 <;> rfl) (fun j => ?_)⟩
    rotate_right
    · refine arr_set (S := (E.i 61).toNat) (a := E.a 0) ?_ ?_ ?_ ?_ ?_ ?_ ?_ ?_ ?_ ?_ ?_ ?_ (fun j hj => ?_) (sE E) rfl j
      any_goals (simp only [se5, se6, se9, se10, se29, se30, se31, se32, se33, se35, se71, se72, se73, se74, se79, se80, se81, se82, se94, se98, se99, se100, se101, d_c, d_v, d_add, d_mul, d_mx, d_mn, d_rd, d_av, d_up, ix1, ix2, ix3, ix4, ix5, ix6, Nat.add_left_cancel_iff, Nat.left_eq_add, Nat.reduceEqDiff, reduceIte]; first | done | rfl | skip)
      all_goals first | omega | (simp only [upP, sE, cE7, xE, toP, imx_max, imn_min, upZ, upT, upF, upW, duE, grE, fastE]; (try simp (disch := omega) only [Int.tdiv_eq_ediv_of_nonneg]); (repeat' split) <;> omega)
    all_goals first | rfl | (simp only [upP, enP, sE, cE7, xE, toP, set_self, se5, se6, se7, se9, se10, se29, se30, se31, se32, se60, se71, se72, se73, se74, se75, se76, se77, se78, se94, se95, se96, se97, d_c, d_v, d_add, d_mul, d_tdiv, d_mx, d_mn, d_rd, d_av, ix1, ix2, ix3, ix4, imx_max, imn_min]; omega) | (simp only [upP, enP, sE, cE7, xE, toP, set_self, se5, se6, se7, se9, se10, se29, se30, se31, se32, se71, se72, se73, se74, se75, se76, se77, se78, se94, d_c, d_v, d_add, d_mul, d_tdiv, d_mx, d_mn, d_rd, d_av, ix1, ix2, ix3, ix4, imx_max, imn_min, upZ, upT, upF, upW, enZ, enT, enF, enE, duE, grE, fastE]; (try simp (disch := omega) only [Int.tdiv_eq_ediv_of_nonneg]); (repeat' split) <;> omega)
end Go.Proofs.YtpjifimjoinnnaaDoor
