/- The plain rule's step keeps its contract. -/
import Derived.Test.YtpjifimjoinnnaaDoorFcG
import Derived.Test.YtpjifimjoinnnaaDoorFcR
import Derived.KernelRfl
set_option autoImplicit true
set_option relaxedAutoImplicit true
set_option linter.unusedVariables false
set_option linter.unusedSimpArgs false
set_option maxRecDepth 100000
set_option maxHeartbeats 4000000
namespace Go.Proofs.YtpjifimjoinnnaaDoor
open Go Go.Sy Go.RowKit
variable {E : Env}
theorem g7_00 (hE : E.fn = fns) (hp : R7 E) : ∀ x ∈ ([sx1, sx2, sx4, sx7, sx9, sx12, sx13, sx15, sx18, sx20, sx25, sx26, sx28, sx31, sx33, sx38, sx39, sx41, sx44, sx46] : List Vl), VOk [] ct7 (fun _ _ _ => True) (fun _ _ _ => 0) none E E x := by
  obtain ⟨r, ix0, ix1, ix2, ix3, ix4, ix5, ix6, ix7, ix8, ix9, ix10, ix11⟩ := hp
  intro x hx
  simp only [List.mem_cons, List.not_mem_nil, or_false] at hx
  rcases hx with rfl | rfl | rfl | rfl | rfl | rfl | rfl | rfl | rfl | rfl | rfl | rfl | rfl | rfl | rfl | rfl | rfl | rfl | rfl | rfl
  all_goals obtain ⟨A6, A7, A3, A4, hb13⟩ := aa7 (E := E)
  all_goals
    intro hf
    simp only [facts_cons, sf1, sf0, sf3, sf2, sf4, sf6, sf5, sf7, sf9, sf8, sf10, sf13, sf12, sf11, sf15, sf14, sf16, sf18, sf17, sf19, sf20, sf22, sf21, sf23, sf25, sf24, sf26, le_t, le_f, lt_f, eq_t, eq_f, d_c, d_v, d_bv, d_add, d_sub, d_mul, d_rd, d_av, ix0, ix2, ix10, se5, se6, se7, se26, se27, se28, se47, se48] at hf
    try (simp (disch := omega) only [Int.tdiv_eq_ediv_of_nonneg] at hf)
    have hK : (xE E).k = 0 := by show E.i 60 = _; omega
    have hK2 : E.i 60 = 0 := hK
    rcases hb13 with ⟨hb, hbb⟩ | ⟨hb, hbb⟩ <;> simp only [hb, b2f, b2t, Bool.true_eq_false, Bool.false_eq_true, false_and, and_false, true_and] at hf A6 A7
    all_goals
      have F6 : ¬ _ := fun h => by have h := A6.1 h; omega
      have F7 : ¬ _ := fun h => by have h := A7.1 h; omega
      have F3 : ¬ _ := fun h => by have h := A3.1 h; omega
      have hst := stp0d (g := 0) hK F6 F7 F3
      have F4 : ¬ _ := fun h => by have h := A4.1 h; omega
      refine ⟨rfl, out7 hE hst (code_0 hK F6 F7 F3 F4).symm (num7 hK (by decide)) (is7 hK (by decide)) (also7 hK (by decide)) ?_ ?_ ?_ ?_ ?_ ?_ ?_ ?_ ?_ ?_ ?_ ?_ ?_ ?_ (by (rw [if_neg (by omega)]; rfl)) (by rw [hK2]; show E.b 12 = _; cases E.b 12 <;> rfl) (fun j => ?_)⟩
      rotate_right
      · refine arr_set (S := (E.i 61).toNat) (a := E.a 0) ?_ ?_ ?_ ?_ ?_ ?_ ?_ ?_ ?_ ?_ ?_ ?_ (fun j hj => ?_) (sE E) rfl j
        any_goals (simp only [se5, se27, se29, se30, se33, se35, se45, se46, se49, se50, se51, se52, se53, se54, se55, se56, se57, d_c, d_v, d_bv, d_add, d_mul, d_ite, d_rd, d_av, d_up, ix0, ix1, ix5, ix6, ix10, Nat.add_left_cancel_iff, Nat.left_eq_add, Nat.add_eq_left, Nat.reduceEqDiff, reduceIte]; first | rfl | skip)
        all_goals first | rfl | omega | ((repeat rw [if_neg (by omega)]); done) | ((repeat rw [if_neg (by omega)]); rfl) | (show _ = if _ ≠ (0 : Int) ∨ _ ≠ (0 : Int) then (1 : Int) else 0; exact finq (b := E.b 13) (f := E.a 0 (12 * (E.i 61).toNat + 10)) (by omega)) | first | (simp only [comeP, sE, cE7, xE, toP]; omega) | (simp only [comeP, sE, cE7, xE, toP, coT, coF]; (try simp (disch := omega) only [Int.tdiv_eq_ediv_of_nonneg]); (repeat' split) <;> omega)
      all_goals first | rfl | (simp only [comeP, comeC, sE, cE7, xE, toP, set_self, se5, se6, se7, se9, se10, se26, se47, se48, d_c, d_v, d_add, d_sub, d_mul, d_rd, d_av, ix0, ix2, ix3]; first | done | omega) | (simp only [comeC, sE, cE7, xE, toP, d_v, coT, coF]; (try simp (disch := omega) only [Int.tdiv_eq_ediv_of_nonneg]); (repeat' split) <;> omega)
theorem g7_03a (hE : E.fn = fns) (hp : R7 E) : ∀ x ∈ ([sx6, sx11, sx17, sx22, sx30, sx35, sx43, sx48] : List Vl), VOk [] ct7 (fun _ _ _ => True) (fun _ _ _ => 0) none E E x := by
  obtain ⟨r, ix0, ix1, ix2, ix3, ix4, ix5, ix6, ix7, ix8, ix9, ix10, ix11⟩ := hp
  intro x hx
  simp only [List.mem_cons, List.not_mem_nil, or_false] at hx
  rcases hx with rfl | rfl | rfl | rfl | rfl | rfl | rfl | rfl
  all_goals obtain ⟨A6, A7, A3, A4, hb13⟩ := aa7 (E := E)
  all_goals
    intro hf
    simp only [facts_cons, sf2, sf1, sf0, sf5, sf8, sf14, sf13, sf12, sf11, sf17, sf21, sf20, sf24, le_f, lt_f, eq_t, eq_f, d_c, d_v, d_bv, d_add, d_mul, d_rd, d_av, ix0, ix2, ix10, se5, se6, se7, se26, se27, se28] at hf
    try (simp (disch := omega) only [Int.tdiv_eq_ediv_of_nonneg] at hf)
    have hK : (xE E).k = 0 := by show E.i 60 = _; omega
    have hK2 : E.i 60 = 0 := hK
    rcases hb13 with ⟨hb, hbb⟩ | ⟨hb, hbb⟩ <;> simp only [hb, b2f, b2t, Bool.true_eq_false, Bool.false_eq_true, false_and, and_false, true_and] at hf A6 A7
    all_goals
      have F6 : ¬ _ := fun h => by have h := A6.1 h; omega
      have F7 : ¬ _ := fun h => by have h := A7.1 h; omega
      have T3 := A3.2 (by omega)
      have hst := stp0c (g := 0) hK F6 F7 T3
      refine ⟨rfl, out7 hE hst (code_3 hK F6 F7 (.inl T3)).symm (num7 hK (by decide)) (is7 hK (by decide)) (also7 hK (by decide)) ?_ ?_ ?_ ?_ ?_ ?_ ?_ ?_ ?_ ?_ ?_ ?_ ?_ ?_ (by (rw [if_neg (by omega)]; rfl)) (by rw [hK2]; show E.b 12 = _; cases E.b 12 <;> rfl) (fun j => ?_)⟩
      rotate_right
      · refine arr_set (S := (E.i 61).toNat) (a := E.a 0) ?_ ?_ ?_ ?_ ?_ ?_ ?_ ?_ ?_ ?_ ?_ ?_ (fun j hj => ?_) (sE E) rfl j
        any_goals (simp only [se5, se27, se29, se30, se33, se35, se45, se46, se49, se50, se51, se52, se53, se54, se55, se56, se57, d_c, d_v, d_bv, d_add, d_mul, d_ite, d_rd, d_av, d_up, ix0, ix1, ix5, ix6, ix10, Nat.add_left_cancel_iff, Nat.left_eq_add, Nat.add_eq_left, Nat.reduceEqDiff, reduceIte]; first | rfl | skip)
        all_goals first | rfl | omega | ((repeat rw [if_neg (by omega)]); done) | ((repeat rw [if_neg (by omega)]); rfl) | (show _ = if _ ≠ (0 : Int) ∨ _ ≠ (0 : Int) then (1 : Int) else 0; exact finq (b := E.b 13) (f := E.a 0 (12 * (E.i 61).toNat + 10)) (by omega)) | first | (simp only [comeP, sE, cE7, xE, toP]; omega) | (simp only [comeP, sE, cE7, xE, toP, coT, coF]; (try simp (disch := omega) only [Int.tdiv_eq_ediv_of_nonneg]); (repeat' split) <;> omega)
      all_goals first | rfl | (simp only [comeP, sE, cE7, xE, toP, set_self, se5, se6, se7, se9, se10, d_c, d_v, d_add, d_mul, d_rd, d_av, ix2, ix3]; done)
theorem g7_03b (hE : E.fn = fns) (hp : R7 E) : ∀ x ∈ ([sx3, sx5, sx8, sx10, sx14, sx16, sx19, sx21, sx27, sx29, sx32, sx34, sx40, sx42, sx45, sx47] : List Vl), VOk [] ct7 (fun _ _ _ => True) (fun _ _ _ => 0) none E E x := by
  obtain ⟨r, ix0, ix1, ix2, ix3, ix4, ix5, ix6, ix7, ix8, ix9, ix10, ix11⟩ := hp
  intro x hx
  simp only [List.mem_cons, List.not_mem_nil, or_false] at hx
  rcases hx with rfl | rfl | rfl | rfl | rfl | rfl | rfl | rfl | rfl | rfl | rfl | rfl | rfl | rfl | rfl | rfl
  all_goals obtain ⟨A6, A7, A3, A4, hb13⟩ := aa7 (E := E)
  all_goals
    intro hf
    simp only [facts_cons, sf3, sf2, sf1, sf0, sf4, sf6, sf5, sf7, sf9, sf8, sf10, sf15, sf14, sf13, sf12, sf11, sf16, sf18, sf17, sf19, sf22, sf21, sf20, sf23, sf25, sf24, sf26, le_t, le_f, lt_f, eq_t, eq_f, d_c, d_v, d_bv, d_add, d_sub, d_mul, d_rd, d_av, ix0, ix2, ix10, se5, se6, se7, se26, se27, se28, se47, se48] at hf
    try (simp (disch := omega) only [Int.tdiv_eq_ediv_of_nonneg] at hf)
    have hK : (xE E).k = 0 := by show E.i 60 = _; omega
    have hK2 : E.i 60 = 0 := hK
    rcases hb13 with ⟨hb, hbb⟩ | ⟨hb, hbb⟩ <;> simp only [hb, b2f, b2t, Bool.true_eq_false, Bool.false_eq_true, false_and, and_false, true_and] at hf A6 A7
    all_goals
      have F6 : ¬ _ := fun h => by have h := A6.1 h; omega
      have F7 : ¬ _ := fun h => by have h := A7.1 h; omega
      have F3 : ¬ _ := fun h => by have h := A3.1 h; omega
      have hst := stp0d (g := 0) hK F6 F7 F3
      have T4 := A4.2 (by omega)
      refine ⟨rfl, out7 hE hst (code_3 hK F6 F7 (.inr T4)).symm (num7 hK (by decide)) (is7 hK (by decide)) (also7 hK (by decide)) ?_ ?_ ?_ ?_ ?_ ?_ ?_ ?_ ?_ ?_ ?_ ?_ ?_ ?_ (by (rw [if_neg (by omega)]; rfl)) (by rw [hK2]; show E.b 12 = _; cases E.b 12 <;> rfl) (fun j => ?_)⟩
      rotate_right
      · refine arr_set (S := (E.i 61).toNat) (a := E.a 0) ?_ ?_ ?_ ?_ ?_ ?_ ?_ ?_ ?_ ?_ ?_ ?_ (fun j hj => ?_) (sE E) rfl j
        any_goals (simp only [se5, se27, se29, se30, se33, se35, se45, se46, se49, se50, se51, se52, se53, se54, se55, se56, se57, d_c, d_v, d_bv, d_add, d_mul, d_ite, d_rd, d_av, d_up, ix0, ix1, ix5, ix6, ix10, Nat.add_left_cancel_iff, Nat.left_eq_add, Nat.add_eq_left, Nat.reduceEqDiff, reduceIte]; first | rfl | skip)
        all_goals first | rfl | omega | ((repeat rw [if_neg (by omega)]); done) | ((repeat rw [if_neg (by omega)]); rfl) | (show _ = if _ ≠ (0 : Int) ∨ _ ≠ (0 : Int) then (1 : Int) else 0; exact finq (b := E.b 13) (f := E.a 0 (12 * (E.i 61).toNat + 10)) (by omega)) | first | (simp only [comeP, sE, cE7, xE, toP]; omega) | (simp only [comeP, sE, cE7, xE, toP, coT, coF]; (try simp (disch := omega) only [Int.tdiv_eq_ediv_of_nonneg]); (repeat' split) <;> omega)
      all_goals first | rfl | (simp only [comeP, comeC, sE, cE7, xE, toP, set_self, se5, se6, se7, se9, se10, se26, se47, se48, d_c, d_v, d_add, d_sub, d_mul, d_rd, d_av, ix0, ix2, ix3]; first | done | omega) | (simp only [comeC, sE, cE7, xE, toP, d_v, coT, coF]; (try simp (disch := omega) only [Int.tdiv_eq_ediv_of_nonneg]); (repeat' split) <;> omega)
theorem g7_06 (hE : E.fn = fns) (hp : R7 E) : ∀ x ∈ ([sx0, sx23, sx24, sx36, sx37] : List Vl), VOk [] ct7 (fun _ _ _ => True) (fun _ _ _ => 0) none E E x := by
  obtain ⟨r, ix0, ix1, ix2, ix3, ix4, ix5, ix6, ix7, ix8, ix9, ix10, ix11⟩ := hp
  intro x hx
  simp only [List.mem_cons, List.not_mem_nil, or_false] at hx
  rcases hx with rfl | rfl | rfl | rfl | rfl
  all_goals obtain ⟨A6, A7, A3, A4, hb13⟩ := aa7 (E := E)
  all_goals
    intro hf
    simp only [facts_cons, sf0, sf12, sf11, lt_t, lt_f, eq_t, eq_f, d_c, d_v, d_bv, d_add, d_mul, d_rd, d_av, ix0, ix10, se5, se26, se27, se28] at hf
    try (simp (disch := omega) only [Int.tdiv_eq_ediv_of_nonneg] at hf)
    have hK : (xE E).k = 0 := by show E.i 60 = _; omega
    have hK2 : E.i 60 = 0 := hK
    rcases hb13 with ⟨hb, hbb⟩ | ⟨hb, hbb⟩ <;> simp only [hb, b2f, b2t, Bool.true_eq_false, Bool.false_eq_true, false_and, and_false, true_and] at hf A6 A7
    all_goals
      have X : e6a ((sE E).p (xE E).S.toNat) (xE E) ∨ (¬ e6a ((sE E).p (xE E).S.toNat) (xE E) ∧ e6b ((sE E).p (xE E).S.toNat) (xE E)) := by rw [A6, A7]; omega
      have hst : stp 0 (sE E) (xE E) = sE E := by rcases X with X | X; exact stp0a hK X; exact stp0b0 hK X.1 X.2
      refine ⟨rfl, out7 hE hst (code_6 hK (X.imp id (fun h => h.2))).symm (num7 hK (by decide)) (is7 hK (by decide)) (also7 hK (by decide)) ?_ ?_ ?_ ?_ ?_ ?_ ?_ ?_ ?_ ?_ ?_ ?_ ?_ ?_ (by (rw [if_neg (by omega)]; rfl)) (by rw [hK2]; show E.b 12 = _; cases E.b 12 <;> rfl) (fun j => (toP_get (E.a 0) j).symm)⟩
      all_goals first | rfl | (simp only [sE, cE7, xE, toP, se5, se6, se7, se9, se10, d_c, d_v, d_add, d_mul, d_rd, d_av, ix2, ix3]; done)
theorem g7_1 (hE : E.fn = fns) (hp : R7 E) : ∀ x ∈ ([sx49, sx50] : List Vl), VOk [] ct7 (fun _ _ _ => True) (fun _ _ _ => 0) none E E x := by
  obtain ⟨r, ix0, ix1, ix2, ix3, ix4, ix5, ix6, ix7, ix8, ix9, ix10, ix11⟩ := hp
  intro x hx
  simp only [List.mem_cons, List.not_mem_nil, or_false] at hx
  rcases hx with rfl | rfl
  all_goals
    intro hf
    simp only [facts_cons, sf27, eq_t, eq_f, d_c, d_v, d_add, d_mul, d_rd, d_av, ix10, se5, se27, se28] at hf
    try (simp (disch := omega) only [Int.tdiv_eq_ediv_of_nonneg] at hf)
    have hK : (xE E).k = 1 := by show E.i 60 = _; omega
    have hK2 : E.i 60 = 1 := hK
    have hst := stp1 (g := 0) (s := sE E) hK
    refine ⟨rfl, out7 hE hst (code7 hK (by decide)) (num7 hK (by decide)) (by refine nz_if ?_; rw [is_1 hK]; simp only [sE, cE7, xE, toP, se5, se6, se7, se9, se10, se29, se30, se58, se59, se60, se61, le_t, d_c, d_v, d_bc, d_add, d_sub, d_mul, d_tdiv, d_rd, d_av, ix1, ix2, ix3, duE, Bool.false_eq_true, false_iff]; (try simp (disch := omega) only [Int.tdiv_eq_ediv_of_nonneg]); (try omega)) (by refine nz_if ?_; rw [also_1 hK]; simp only [sE, cE7, xE, se62, se63, se64, se65, le_t, d_c, d_v, d_add, d_sub, d_mul, d_tdiv, duE]; (try simp (disch := omega) only [Int.tdiv_eq_ediv_of_nonneg]); (try omega)) ?_ ?_ ?_ ?_ ?_ ?_ ?_ ?_ ?_ ?_ ?_ ?_ ?_ ?_ (by (rw [if_neg (by omega)]; rfl)) (by rw [hK2]; show E.b 12 = _; cases E.b 12 <;> rfl) (fun j => ?_)⟩
    rotate_right
    · refine arr_set (S := (E.i 61).toNat) (a := E.a 0) ?_ ?_ ?_ ?_ ?_ ?_ ?_ ?_ ?_ ?_ ?_ ?_ (fun j hj => ?_) (sE E) rfl j
      any_goals (simp only [se5, se29, se30, se58, se66, d_c, d_v, d_add, d_mul, d_rd, d_av, d_up, ix1, Nat.add_left_cancel_iff, Nat.left_eq_add, Nat.reduceEqDiff, reduceIte]; first | rfl | skip)
      all_goals omega
    all_goals first | rfl | (simp only [sE, cE7, xE, toP, set_self, se5, se6, se7, se9, se10, d_c, d_v, d_add, d_mul, d_rd, d_av, ix2, ix3]; done)
end Go.Proofs.YtpjifimjoinnnaaDoor
