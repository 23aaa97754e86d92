/- The plain rule's step keeps its contract. -/
import Derived.Test.YtpjifimjoinnnaaDoorFcG
import Derived.Test.YtpjifimjoinnnaaDoorFcR
import Derived.KernelRfl
set_option autoImplicit true
set_option relaxedAutoImplicit true
set_option linter.unusedVariables false
set_option linter.unusedSimpArgs false
set_option maxRecDepth 100000
set_option maxHeartbeats 4000000
namespace Go.Proofs.YtpjifimjoinnnaaDoor
open Go Go.Sy Go.RowKit
variable {E : Env}
theorem g7_9 (hE : E.fn = fns) (hp : R7 E) : ∀ x ∈ ([sx88, sx89, sx90] : List Vl), VOk [] ct7 (fun _ _ _ => True) (fun _ _ _ => 0) none E E x := by
  obtain ⟨r, ix0, ix1, ix2, ix3, ix4, ix5, ix6, ix7, ix8, ix9, ix10, ix11⟩ := hp
  intro x hx
  simp only [List.mem_cons, List.not_mem_nil, or_false] at hx
  rcases hx with rfl | rfl | rfl
  all_goals
    intro hf
    simp only [facts_cons, sf52, sf51, sf49, sf41, sf28, lt_t, lt_f, eq_t, eq_f, d_c, d_v, d_add, d_mul, d_rd, d_av, ix7, ix8, ix9, se5, se37, se38, se39, se40, se41, se42] at hf
    try (simp (disch := omega) only [Int.tdiv_eq_ediv_of_nonneg] at hf)
    have hK : (xE E).k = 9 := by show E.i 60 = _; omega
    have hK2 : E.i 60 = 9 := hK
    have hst := stp9 (g := 0) (s := sE E) hK
    refine ⟨rfl, out7 hE hst (code7 hK (by decide)) (num7 hK (by decide)) (by refine nz_if ?_; rw [is_9 hK]; simp only [newB, sE, cE7, xE, toP, d_bc, ne_eq, Int.not_lt, Bool.false_eq_true, false_iff, true_iff]; (try simp (disch := omega) only [Int.tdiv_eq_ediv_of_nonneg]); (try omega)) (also7 hK (by decide)) ?_ ?_ ?_ ?_ ?_ ?_ ?_ ?_ ?_ ?_ ?_ ?_ ?_ ?_ (by (rw [if_neg (by omega)]; rfl)) (by rw [hK2]; show E.b 12 = _; cases E.b 12 <;> rfl) (fun j => ?_)⟩
    rotate_right
    · refine arr_set (S := (E.i 61).toNat) (a := E.a 0) ?_ ?_ ?_ ?_ ?_ ?_ ?_ ?_ ?_ ?_ ?_ ?_ (fun j hj => ?_) (sE E) rfl j
      any_goals (simp only [se5, se39, se40, se41, se125, d_c, d_v, d_add, d_mul, d_rd, d_av, d_up, ix8, ix9, Nat.add_left_cancel_iff, Nat.left_eq_add, Nat.reduceEqDiff, reduceIte]; first | done | rfl | skip)
      all_goals first | omega | (simp only [blkP, sE, cE7, xE, toP]; omega)
    all_goals first | rfl | (simp only [blkP, sE, cE7, xE, toP, set_self, se5, se6, se7, se9, se10, d_c, d_v, d_add, d_mul, d_rd, d_av, ix2, ix3]; done)
end Go.Proofs.YtpjifimjoinnnaaDoor
