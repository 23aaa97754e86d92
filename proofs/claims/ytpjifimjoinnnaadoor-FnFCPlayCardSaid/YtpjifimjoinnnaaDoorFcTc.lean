/- The plain rule's step keeps its contract. -/
import Derived.Test.YtpjifimjoinnnaaDoorFcG
import Derived.Test.YtpjifimjoinnnaaDoorFcR
import Derived.KernelRfl
set_option autoImplicit true
set_option relaxedAutoImplicit true
set_option linter.unusedVariables false
set_option linter.unusedSimpArgs false
set_option maxRecDepth 100000
set_option maxHeartbeats 4000000
namespace Go.Proofs.YtpjifimjoinnnaaDoor
open Go Go.Sy Go.RowKit
variable {E : Env}
theorem g7_4 (hE : E.fn = fns) (hp : R7 E) : ∀ x ∈ ([sx72, sx73, sx81, sx82] : List Vl), VOk [] ct7 (fun _ _ _ => True) (fun _ _ _ => 0) none E E x := by
  obtain ⟨r, ix0, ix1, ix2, ix3, ix4, ix5, ix6, ix7, ix8, ix9, ix10, ix11⟩ := hp
  intro x hx
  simp only [List.mem_cons, List.not_mem_nil, or_false] at hx
  rcases hx with rfl | rfl | rfl | rfl
  all_goals
    intro hf
    simp only [facts_cons, sf48, sf47, sf46, sf45, sf44, sf43, sf42, sf41, sf28, le_t, le_f, lt_t, lt_f, eq_t, eq_f, d_c, d_v, d_ap, d_sli, d_slnil, d_bap, d_sub, d_mul, d_tdiv, hE, b1000, b1001, b1002, g1001, g1002, flw_def, limQ_def, limF_def, limW_def, lim4_def, se64, se65, se89, se106, se107, se108, se109, se110, se111, se112, se113, se114, se115] at hf
    try (simp (disch := omega) only [Int.tdiv_eq_ediv_of_nonneg] at hf)
    have hK : (xE E).k = 4 := by show E.i 60 = _; omega
    have hK2 : E.i 60 = 4 := hK
    have hst := stp4 (g := 0) (s := sE E) hK
    refine ⟨rfl, out7 hE hst (code7 hK (by decide)) (by rw [num_4 hK]; (simp only [sE, cE7, xE, se102, se103, se104, se105, se116, d_c, d_v, d_add, d_mul, d_mx, d_mn, imx_max, imn_min, upZ, upO, duE, grE, fastE]; (try simp (disch := omega) only [Int.tdiv_eq_ediv_of_nonneg]); (repeat' split) <;> omega)) (is7 hK (by decide)) (also7 hK (by decide)) ?_ ?_ ?_ ?_ ?_ ?_ ?_ ?_ ?_ ?_ ?_ ?_ ?_ ?_ (by (rw [if_neg (by omega)]; rfl)) (by rw [hK2]; show E.b 12 = _; cases E.b 12 <;> rfl) (fun j => (toP_get (E.a 0) j).symm)⟩
    all_goals first | rfl | (simp only [upP, sE, cE7, xE, toP, se5, se6, se7, se9, se10, se102, se103, se104, se105, se116, d_c, d_v, d_add, d_mul, d_mx, d_mn, d_rd, d_av, ix2, ix3, imx_max, imn_min]; done) | (simp only [upP, sE, cE7, xE, se102, se103, se104, se105, se116, d_c, d_v, d_add, d_mul, d_mx, d_mn, imx_max, imn_min, upZ, upT, upF, upW, duE, grE, fastE]; (try simp (disch := omega) only [Int.tdiv_eq_ediv_of_nonneg]); (repeat' split) <;> omega)
theorem g7_4dead (hE : E.fn = fns) (hp : R7 E) : ∀ x ∈ ([sx74, sx75, sx76, sx77, sx78, sx79, sx80] : List Vl), VOk [] ct7 (fun _ _ _ => True) (fun _ _ _ => 0) none E E x := by
  obtain ⟨r, ix0, ix1, ix2, ix3, ix4, ix5, ix6, ix7, ix8, ix9, ix10, ix11⟩ := hp
  intro x hx
  simp only [List.mem_cons, List.not_mem_nil, or_false] at hx
  rcases hx with rfl | rfl | rfl | rfl | rfl | rfl | rfl
  all_goals
    intro hf
    simp only [facts_cons, sf47, sf46, sf45, sf44, sf43, sf42, sf41, sf28, le_t, le_f, lt_t, lt_f, eq_t, eq_f, d_c, d_v, d_ap, d_sli, d_slnil, d_bap, d_sub, d_mul, d_tdiv, hE, b1000, b1001, b1002, g1001, g1002, flw_def, limQ_def, limF_def, limW_def, lim4_def, se64, se65, se89, se107, se108, se109, se110, se111, se112, se113, se114, se115] at hf
    try (simp (disch := omega) only [Int.tdiv_eq_ediv_of_nonneg] at hf)
    obtain ⟨L1, L2, L3, L4, L5, L6⟩ := lim4_ok (rd := E.i 1 - E.i 6) (sz := E.i 3) (rtt := E.i 40) (by omega) (by omega) (by omega)
    first | omega | (simp only [L1, L2, L3, L4, Bool.true_eq_false, false_and] at hf; done)
theorem g7_5 (hE : E.fn = fns) (hp : R7 E) : ∀ x ∈ ([sx83] : List Vl), VOk [] ct7 (fun _ _ _ => True) (fun _ _ _ => 0) none E E x := by
  obtain ⟨r, ix0, ix1, ix2, ix3, ix4, ix5, ix6, ix7, ix8, ix9, ix10, ix11⟩ := hp
  intro x hx
  simp only [List.mem_cons, List.not_mem_nil, or_false] at hx
  rcases hx with rfl
  all_goals
    intro hf
    simp only [facts_cons, sf41, sf28, eq_t, eq_f, d_c, d_v, d_c] at hf
    try (simp (disch := omega) only [Int.tdiv_eq_ediv_of_nonneg] at hf)
    have hK : (xE E).k = 5 := by show E.i 60 = _; omega
    have hK2 : E.i 60 = 5 := hK
    have hst := stp5 (g := 0) (s := sE E) hK
    refine ⟨rfl, out7 hE hst (code7 hK (by decide)) (num7 hK (by decide)) (by refine nz_if ?_; rw [is_5 hK]; simp only [sE, cE7, xE, toP, se5, se39, se40, lt_t, d_c, d_v, d_add, d_mul, d_rd, d_av, ix8]; (try simp (disch := omega) only [Int.tdiv_eq_ediv_of_nonneg]); (try omega)) (also7 hK (by decide)) ?_ ?_ ?_ ?_ ?_ ?_ ?_ ?_ ?_ ?_ ?_ ?_ ?_ ?_ (by (rw [if_neg (by omega)]; rfl)) (by rw [hK2]; show E.b 12 = _; cases E.b 12 <;> rfl) (fun j => ?_)⟩
    rotate_right
    · refine arr_set (S := (E.i 61).toNat) (a := E.a 0) ?_ ?_ ?_ ?_ ?_ ?_ ?_ ?_ ?_ ?_ ?_ ?_ (fun j hj => ?_) (sE E) rfl j
      any_goals (simp only [se5, se39, se40, se117, se118, d_c, d_v, d_add, d_mul, d_mx, d_rd, d_av, d_up, ix8, Nat.add_left_cancel_iff, Nat.left_eq_add, Nat.reduceEqDiff, reduceIte]; first | rfl | skip)
      all_goals first | omega | (simp only [sE, cE7, xE, toP, imx_max]; done)
    all_goals first | rfl | (simp only [sE, cE7, xE, toP, set_self, se5, se6, se7, se9, se10, d_c, d_v, d_add, d_mul, d_rd, d_av, ix2, ix3]; done)
theorem g7_6 (hE : E.fn = fns) (hp : R7 E) : ∀ x ∈ ([sx84] : List Vl), VOk [] ct7 (fun _ _ _ => True) (fun _ _ _ => 0) none E E x := by
  obtain ⟨r, ix0, ix1, ix2, ix3, ix4, ix5, ix6, ix7, ix8, ix9, ix10, ix11⟩ := hp
  intro x hx
  simp only [List.mem_cons, List.not_mem_nil, or_false] at hx
  rcases hx with rfl
  all_goals
    intro hf
    simp only [facts_cons, sf49, sf41, sf28, eq_t, eq_f, d_c, d_v, d_c] at hf
    try (simp (disch := omega) only [Int.tdiv_eq_ediv_of_nonneg] at hf)
    have hK : (xE E).k = 6 := by show E.i 60 = _; omega
    have hK2 : E.i 60 = 6 := hK
    have hst := stp6 (g := 0) (s := sE E) hK
    refine ⟨rfl, out7 hE hst (code7 hK (by decide)) (num7 hK (by decide)) (by refine nz_if ?_; rw [is_6 hK]; simp only [sE, cE7, xE, lt_t, d_v]; (try simp (disch := omega) only [Int.tdiv_eq_ediv_of_nonneg]); (try omega)) (also7 hK (by decide)) ?_ ?_ ?_ ?_ ?_ ?_ ?_ ?_ ?_ ?_ ?_ ?_ ?_ ?_ (by (rw [if_neg (by omega)]; rfl)) (by rw [hK2]; show E.b 12 = _; cases E.b 12 <;> rfl) (fun j => (toP_get (E.a 0) j).symm)⟩
    all_goals first | rfl | (simp only [sE, cE7, xE, toP, se5, se6, se7, se9, se10, se119, d_c, d_v, d_add, d_mul, d_mx, d_rd, d_av, ix2, ix3, imx_max]; done)
theorem g7_7 (hE : E.fn = fns) (hp : R7 E) : ∀ x ∈ ([sx85] : List Vl), VOk [] ct7 (fun _ _ _ => True) (fun _ _ _ => 0) none E E x := by
  obtain ⟨r, ix0, ix1, ix2, ix3, ix4, ix5, ix6, ix7, ix8, ix9, ix10, ix11⟩ := hp
  intro x hx
  simp only [List.mem_cons, List.not_mem_nil, or_false] at hx
  rcases hx with rfl
  all_goals
    intro hf
    simp only [facts_cons, sf50, sf49, sf41, sf28, le_t, eq_t, eq_f, d_c, d_v, d_add, d_sub, d_mul, d_mx, d_mn, d_rd, d_av, ix7, ix8, imx_max, imn_min, se5, se37, se38, se39, se40, se120, se121, se122, se123] at hf
    try (simp (disch := omega) only [Int.tdiv_eq_ediv_of_nonneg] at hf)
    have hK : (xE E).k = 7 := by show E.i 60 = _; omega
    have hK2 : E.i 60 = 7 := hK
    have hst := stp7 (g := 0) (s := sE E) hK
    refine ⟨rfl, out7 hE hst (code7 hK (by decide)) (num7 hK (by decide)) (by rw [if_pos (is_7 hK)]; simp only [SB.den, SE.den]; refine Eq.trans (b := true) (decide_eq_true ?_) rfl; simp only [se5, se37, se38, se39, se40, se120, se121, se122, se123, d_c, d_v, d_add, d_sub, d_mul, d_mx, d_mn, d_rd, d_av, ix7, ix8, imx_max, imn_min]; omega) (also7 hK (by decide)) ?_ ?_ ?_ ?_ ?_ ?_ ?_ ?_ ?_ ?_ ?_ ?_ ?_ ?_ (by (rw [if_neg (by omega)]; rfl)) (by rw [hK2]; show E.b 12 = _; cases E.b 12 <;> rfl) (fun j => ?_)⟩
    rotate_right
    · refine arr_set (S := (E.i 61).toNat) (a := E.a 0) ?_ ?_ ?_ ?_ ?_ ?_ ?_ ?_ ?_ ?_ ?_ ?_ (fun j hj => ?_) (sE E) rfl j
      any_goals (simp only [se5, se37, se38, se43, se124, d_c, d_v, d_add, d_mul, d_rd, d_av, d_up, ix7, Nat.add_left_cancel_iff, Nat.left_eq_add, Nat.reduceEqDiff, reduceIte]; first | rfl | skip)
      all_goals omega
    all_goals first | rfl | (simp only [sE, cE7, xE, toP, set_self, se5, se6, se7, se9, se10, d_c, d_v, d_add, d_mul, d_rd, d_av, ix2, ix3]; done)
theorem g7_7exf (hE : E.fn = fns) (hp : R7 E) : ∀ x ∈ ([sx86] : List Vl), VOk [] ct7 (fun _ _ _ => True) (fun _ _ _ => 0) none E E x := by
  obtain ⟨r, ix0, ix1, ix2, ix3, ix4, ix5, ix6, ix7, ix8, ix9, ix10, ix11⟩ := hp
  intro x hx
  simp only [List.mem_cons, List.not_mem_nil, or_false] at hx
  rcases hx with rfl
  all_goals
    intro hf
    simp only [facts_cons, sf50, sf49, sf41, sf28, le_f, eq_t, eq_f, d_c, d_v, d_add, d_sub, d_mul, d_mx, d_mn, d_rd, d_av, ix7, ix8, imx_max, imn_min, se5, se37, se38, se39, se40, se120, se121, se122, se123] at hf
    try (simp (disch := omega) only [Int.tdiv_eq_ediv_of_nonneg] at hf)
    exfalso; omega
theorem g7_8 (hE : E.fn = fns) (hp : R7 E) : ∀ x ∈ ([sx87] : List Vl), VOk [] ct7 (fun _ _ _ => True) (fun _ _ _ => 0) none E E x := by
  obtain ⟨r, ix0, ix1, ix2, ix3, ix4, ix5, ix6, ix7, ix8, ix9, ix10, ix11⟩ := hp
  intro x hx
  simp only [List.mem_cons, List.not_mem_nil, or_false] at hx
  rcases hx with rfl
  all_goals
    intro hf
    simp only [facts_cons, sf51, sf49, sf41, sf28, eq_t, eq_f, d_c, d_v, d_c] at hf
    try (simp (disch := omega) only [Int.tdiv_eq_ediv_of_nonneg] at hf)
    have hK : (xE E).k = 8 := by show E.i 60 = _; omega
    have hK2 : E.i 60 = 8 := hK
    have hst := stp8 (g := 0) (s := sE E) hK
    refine ⟨rfl, out7 hE hst (code7 hK (by decide)) (by rw [num_8 hK]; (simp only [sE, cE7, xE, toP, se5, se37, se38, se39, se40, se120, se121, se122, se123, d_c, d_v, d_add, d_sub, d_mul, d_mx, d_mn, d_rd, d_av, ix7, ix8, imx_max, imn_min]; omega)) (is7 hK (by decide)) (also7 hK (by decide)) ?_ ?_ ?_ ?_ ?_ ?_ ?_ ?_ ?_ ?_ ?_ ?_ ?_ ?_ (by (rw [if_neg (by omega)]; rfl)) (by rw [hK2]; show E.b 12 = _; cases E.b 12 <;> rfl) (fun j => (toP_get (E.a 0) j).symm)⟩
    all_goals first | rfl | (simp only [sE, cE7, xE, toP, se5, se6, se7, se9, se10, d_c, d_v, d_add, d_mul, d_rd, d_av, ix2, ix3]; done)
end Go.Proofs.YtpjifimjoinnnaaDoor
