/- Ways of the play with 3 streams. -/
import Derived.Test.YtpjifimjoinnnaaDoorFcI
import Derived.Test.YtpjifimjoinnnaaDoorFcQ3
import Derived.KernelRfl
set_option autoImplicit true
set_option relaxedAutoImplicit true
set_option linter.unusedVariables false
set_option linter.unusedSimpArgs false
set_option maxRecDepth 100000
set_option maxHeartbeats 4000000
namespace Go.Proofs.YtpjifimjoinnnaaDoor
open Go Go.Sy Go.RowKit
variable {E0 E : Env} {k : Nat}
theorem w3_0 (cx : Cx 3 E0 E k) : Gl 3 E0 E p3x0 := by
  intro hf
  simp only [facts_cons, p3f5, p3f4, p3f3, p3f2, p3f1, p3f0] at hf
  obtain ⟨a0, a1, a2, a3, a4, a5, a6, a7, a8, a9, a10, a11, _⟩ := hf
  simp only [and_t, not_t, le_t, lt_t, eq_t, eq_f, d_c, d_v, d_bv, d_add, d_mul, d_rd, d_av, p3e3, p3e4, p3e5, p3e6, p3e7, p3e8, p3e9, p3e10, p3e11, p3e12] at a0 a1 a2 a3 a4 a5 a6 a7 a8 a9 a10 a11
  have hl : E.i 20 < E.i 0 := a11
  obtain ⟨hin, h1, h2⟩ := cx.in hl
  obtain ⟨hS, hK, hpc⟩ := sk8 (E := E) (c := 0) (kd := 0) (by omega) (by omega)
  obtain ⟨A6, A7, A3, A4⟩ := aa0 hpc
  have T6 := A6.2 (by exact .inl a0)
  have hst : stp 1 (fE E) (inpE E) = _ := stp0a hK T6
  (try rw [hpc] at hst)
  exact go8n (.i (.c 6) (.i (.c 0) (.b (.c false) (.b (.c false) (.i (.v 103) (.i (.v 104) (.i (.v 4) (.i (.v 5) .nil)))))))) cx hl hst hS (fun _ => rfl) (fun _ => (al3 rfl rfl rfl)) (code_6 hK (.inl T6)).symm (num_c hK) (is_c hK) (also_c hK)
theorem w3_1 (cx : Cx 3 E0 E k) : Gl 3 E0 E p3x1 := by
  intro hf
  simp only [facts_cons, p3f6, p3f5, p3f4, p3f3, p3f2, p3f1, p3f0] at hf
  obtain ⟨a0, a1, a2, a3, a4, a5, a6, a7, a8, a9, a10, a11, a12, _⟩ := hf
  simp only [and_t, and_f, not_t, le_t, lt_t, eq_t, eq_f, d_c, d_v, d_bv, d_add, d_mul, d_rd, d_av, p3e3, p3e4, p3e5, p3e6, p3e7, p3e8, p3e9, p3e10, p3e11, p3e12] at a0 a1 a2 a3 a4 a5 a6 a7 a8 a9 a10 a11 a12
  have hl : E.i 20 < E.i 0 := a12
  obtain ⟨hin, h1, h2⟩ := cx.in hl
  obtain ⟨hS, hK, hpc⟩ := sk8 (E := E) (c := 0) (kd := 0) (by omega) (by omega)
  obtain ⟨A6, A7, A3, A4⟩ := aa0 hpc
  have T6 := A6.2 (by exact .inr a0)
  have hst : stp 1 (fE E) (inpE E) = _ := stp0a hK T6
  (try rw [hpc] at hst)
  exact go8n (.i (.c 6) (.i (.c 0) (.b (.c false) (.b (.c false) (.i (.v 103) (.i (.v 104) (.i (.v 4) (.i (.v 5) .nil)))))))) cx hl hst hS (fun _ => rfl) (fun _ => (al3 rfl rfl rfl)) (code_6 hK (.inl T6)).symm (num_c hK) (is_c hK) (also_c hK)
theorem w3_2 (cx : Cx 3 E0 E k) : Gl 3 E0 E p3x2 := by
  intro hf
  simp only [facts_cons, p3f7, p3f6, p3f5, p3f4, p3f3, p3f2, p3f1, p3f0] at hf
  obtain ⟨a0, a1, a2, a3, a4, a5, a6, a7, a8, a9, a10, a11, a12, a13, _⟩ := hf
  simp only [and_t, and_f, not_t, le_t, lt_t, eq_t, eq_f, d_c, d_v, d_bv, d_add, d_mul, d_rd, d_av, p3e3, p3e4, p3e5, p3e6, p3e7, p3e8, p3e9, p3e10, p3e11, p3e12] at a0 a1 a2 a3 a4 a5 a6 a7 a8 a9 a10 a11 a12 a13
  have hl : E.i 20 < E.i 0 := a13
  obtain ⟨hin, h1, h2⟩ := cx.in hl
  obtain ⟨hS, hK, hpc⟩ := sk8 (E := E) (c := 0) (kd := 0) (by omega) (by omega)
  obtain ⟨A6, A7, A3, A4⟩ := aa0 hpc
  have F6 : ¬ _ := (fun h => by have h := A6.1 h; cases hb : E.b 2 <;> simp only [hb, Bool.false_eq_true, false_and, or_false, true_and, ne_eq] at h a1 a2 <;> omega)
  have T7 := A7.2 (by exact a0)
  have hst : stp 1 (fE E) (inpE E) = _ := stp0b hK F6 T7
  (try rw [hpc] at hst)
  exact go8s (.i (.c 6) (.i (.c 0) (.b (.c false) (.b (.c false) (.i (.v 103) (.i (.v 104) (.i (.v 4) (.i (.v 5) .nil)))))))) cx hl hst hS (fun _ => rfl) (fun _ => (by rfl)) (fun _ => (ne3a rfl rfl)) (code_6 hK (.inr T7)).symm (num_c hK) (is_c hK) (also_c hK)
theorem w3_3 (cx : Cx 3 E0 E k) : Gl 3 E0 E p3x3 := by
  intro hf
  simp only [facts_cons, p3f8, p3f7, p3f6, p3f5, p3f4, p3f3, p3f2, p3f1, p3f0] at hf
  obtain ⟨a0, a1, a2, a3, a4, a5, a6, a7, a8, a9, a10, a11, a12, a13, a14, _⟩ := hf
  simp only [and_t, and_f, not_t, le_t, lt_t, eq_t, eq_f, d_c, d_v, d_bv, d_add, d_mul, d_rd, d_av, p3e3, p3e4, p3e5, p3e6, p3e7, p3e8, p3e9, p3e10, p3e11, p3e12] at a0 a1 a2 a3 a4 a5 a6 a7 a8 a9 a10 a11 a12 a13 a14
  have hl : E.i 20 < E.i 0 := a14
  obtain ⟨hin, h1, h2⟩ := cx.in hl
  obtain ⟨hS, hK, hpc⟩ := sk8 (E := E) (c := 0) (kd := 0) (by omega) (by omega)
  obtain ⟨A6, A7, A3, A4⟩ := aa0 hpc
  have F6 : ¬ _ := (fun h => by have h := A6.1 h; cases hb : E.b 2 <;> simp only [hb, Bool.false_eq_true, false_and, or_false, true_and, ne_eq] at h a2 a3 <;> omega)
  have F7 : ¬ _ := (fun h => by have h := A7.1 h; omega)
  have T3 := A3.2 (by exact a0)
  have hst : stp 1 (fE E) (inpE E) = _ := stp0c hK F6 F7 T3
  (try rw [hpc] at hst)
  exact go8s (.i (.c 3) (.i (.c 0) (.b (.c false) (.b (.c false) (.i (.v 103) (.i (.v 104) (.i (.v 4) (.i (.v 5) .nil)))))))) cx hl hst hS (fun _ => rfl) (fun _ => (by (show (⟨(p3e16 : SE).den E, ((.v 102) : SE).den E, ((.v 103) : SE).den E, ((.v 104) : SE).den E, ((.v 105) : SE).den E, (p3e15 : SE).den E, (p3e14 : SE).den E, ((.v 108) : SE).den E, ((.v 109) : SE).den E, ((.v 110) : SE).den E, b2i (((.not (.and (.not (.v 2)) (.eq p3e5 (.c 0)))) : SB).den E), 0⟩ : P1) = _; (simp only [comeP, pE, inpE, Nat.reduceMul, Nat.reduceAdd, not_d, and_d, eq_d, d_c, d_v, d_ap, d_sli, d_slnil, d_bv, d_add, d_sub, d_mul, d_mx, d_rd, d_av, p3e3, p3e4, p3e5, p3e6, p3e7, p3e11, p3e12, p3e13, p3e14, p3e15, p3e16, cx.hE, f9, f10, imx_max, fin_or2]; rfl)))) (fun _ => (ne3a rfl rfl)) (code_3 hK F6 F7 (.inl T3)).symm (num_c hK) (is_c hK) (also_c hK)
theorem w3_4 (cx : Cx 3 E0 E k) : Gl 3 E0 E p3x4 := by
  intro hf
  simp only [facts_cons, p3f9, p3f8, p3f7, p3f6, p3f5, p3f4, p3f3, p3f2, p3f1, p3f0] at hf
  obtain ⟨a0, a1, a2, a3, a4, a5, a6, a7, a8, a9, a10, a11, a12, a13, a14, a15, _⟩ := hf
  simp only [and_t, and_f, not_t, le_t, lt_t, eq_t, eq_f, d_c, d_v, d_bv, d_add, d_sub, d_mul, d_rd, d_av, p3e3, p3e4, p3e5, p3e6, p3e7, p3e8, p3e9, p3e10, p3e11, p3e12, p3e13, p3e22] at a0 a1 a2 a3 a4 a5 a6 a7 a8 a9 a10 a11 a12 a13 a14 a15
  have hl : E.i 20 < E.i 0 := a15
  obtain ⟨hin, h1, h2⟩ := cx.in hl
  obtain ⟨hS, hK, hpc⟩ := sk8 (E := E) (c := 0) (kd := 0) (by omega) (by omega)
  obtain ⟨A6, A7, A3, A4⟩ := aa0 hpc
  have F6 : ¬ _ := (fun h => by have h := A6.1 h; cases hb : E.b 2 <;> simp only [hb, Bool.false_eq_true, false_and, or_false, true_and, ne_eq] at h a3 a4 <;> omega)
  have F7 : ¬ _ := (fun h => by have h := A7.1 h; omega)
  have F3 : ¬ _ := (fun h => by have h := A3.1 h; omega)
  have T4 := A4.2 (by exact a0)
  have hst : stp 1 (fE E) (inpE E) = _ := stp0d hK F6 F7 F3
  (try rw [hpc] at hst)
  exact go8s (.i (.c 3) (.i (.c 0) (.b (.c false) (.b (.c false) (.i (.v 103) (.i (.v 104) (.i (.v 4) (.i (.v 5) .nil)))))))) cx hl hst hS (fun _ => (by (cases E; cases cx.hE; simp only [comeC, ← imx_max]; rfl))) (fun _ => (by (show (⟨(p3e16 : SE).den E, ((.v 102) : SE).den E, ((.v 103) : SE).den E, ((.v 104) : SE).den E, ((.v 105) : SE).den E, (p3e15 : SE).den E, (p3e14 : SE).den E, ((.v 108) : SE).den E, ((.v 109) : SE).den E, ((.v 110) : SE).den E, b2i (((.not (.and (.not (.v 2)) (.eq p3e5 (.c 0)))) : SB).den E), 0⟩ : P1) = _; (simp only [comeP, pE, inpE, Nat.reduceMul, Nat.reduceAdd, not_d, and_d, eq_d, d_c, d_v, d_ap, d_sli, d_slnil, d_bv, d_add, d_sub, d_mul, d_mx, d_rd, d_av, p3e3, p3e4, p3e5, p3e6, p3e7, p3e11, p3e12, p3e13, p3e14, p3e15, p3e16, cx.hE, f9, f10, imx_max, fin_or2]; rfl)))) (fun _ => (ne3a rfl rfl)) (code_3 hK F6 F7 (.inr T4)).symm (num_c hK) (is_c hK) (also_c hK)
theorem w3_5 (cx : Cx 3 E0 E k) : Gl 3 E0 E p3x5 := by
  intro hf
  simp only [facts_cons, p3f9, p3f8, p3f7, p3f6, p3f5, p3f4, p3f3, p3f2, p3f1, p3f0] at hf
  obtain ⟨a0, a1, a2, a3, a4, a5, a6, a7, a8, a9, a10, a11, a12, a13, a14, a15, _⟩ := hf
  simp only [and_t, and_f, not_t, le_t, lt_t, eq_t, eq_f, d_c, d_v, d_bv, d_add, d_sub, d_mul, d_rd, d_av, p3e3, p3e4, p3e5, p3e6, p3e7, p3e8, p3e9, p3e10, p3e11, p3e12, p3e13, p3e22] at a0 a1 a2 a3 a4 a5 a6 a7 a8 a9 a10 a11 a12 a13 a14 a15
  have hl : E.i 20 < E.i 0 := a15
  obtain ⟨hin, h1, h2⟩ := cx.in hl
  obtain ⟨hS, hK, hpc⟩ := sk8 (E := E) (c := 0) (kd := 0) (by omega) (by omega)
  obtain ⟨A6, A7, A3, A4⟩ := aa0 hpc
  have F6 : ¬ _ := (fun h => by have h := A6.1 h; cases hb : E.b 2 <;> simp only [hb, Bool.false_eq_true, false_and, or_false, true_and, ne_eq] at h a3 a4 <;> omega)
  have F7 : ¬ _ := (fun h => by have h := A7.1 h; omega)
  have F3 : ¬ _ := (fun h => by have h := A3.1 h; omega)
  have F4 : ¬ _ := (fun h => by have h := A4.1 h; omega)
  have hst : stp 1 (fE E) (inpE E) = _ := stp0d hK F6 F7 F3
  (try rw [hpc] at hst)
  exact go8s (.i (.c 0) (.i (.c 0) (.b (.c false) (.b (.c false) (.i (.v 103) (.i (.v 104) (.i (.v 4) (.i (.v 5) .nil)))))))) cx hl hst hS (fun _ => (by (cases E; cases cx.hE; simp only [comeC, ← imx_max]; rfl))) (fun _ => (by (show (⟨(p3e16 : SE).den E, ((.v 102) : SE).den E, ((.v 103) : SE).den E, ((.v 104) : SE).den E, ((.v 105) : SE).den E, (p3e15 : SE).den E, (p3e14 : SE).den E, ((.v 108) : SE).den E, ((.v 109) : SE).den E, ((.v 110) : SE).den E, b2i (((.not (.and (.not (.v 2)) (.eq p3e5 (.c 0)))) : SB).den E), 0⟩ : P1) = _; (simp only [comeP, pE, inpE, Nat.reduceMul, Nat.reduceAdd, not_d, and_d, eq_d, d_c, d_v, d_ap, d_sli, d_slnil, d_bv, d_add, d_sub, d_mul, d_mx, d_rd, d_av, p3e3, p3e4, p3e5, p3e6, p3e7, p3e11, p3e12, p3e13, p3e14, p3e15, p3e16, cx.hE, f9, f10, imx_max, fin_or2]; rfl)))) (fun _ => (ne3a rfl rfl)) (code_0 hK F6 F7 F3 F4).symm (num_c hK) (is_c hK) (also_c hK)
theorem w3_6 (cx : Cx 3 E0 E k) : Gl 3 E0 E p3x6 := by
  intro hf
  simp only [facts_cons, p3f11, p3f10, p3f4, p3f3, p3f2, p3f1, p3f0] at hf
  obtain ⟨a0, a1, a2, a3, a4, a5, a6, a7, a8, a9, a10, a11, a12, a13, _⟩ := hf
  simp only [le_t, lt_t, eq_t, eq_f, d_c, d_v, d_add, d_mul, d_rd, d_av, p3e3, p3e6, p3e7, p3e8, p3e9, p3e10, p3e11, p3e12, p3e24, p3e25] at a0 a1 a2 a3 a4 a5 a6 a7 a8 a9 a10 a11 a12 a13
  have hl : E.i 20 < E.i 0 := a13
  obtain ⟨hin, h1, h2⟩ := cx.in hl
  obtain ⟨hS, hK, hpc⟩ := sk8 (E := E) (c := 0) (kd := 1) (by omega) (by omega)
  have hst : stp 1 (fE E) (inpE E) = _ := stp1 hK
  (try rw [hpc] at hst)
  refine go8s (.i (.c 0) (.i (.c 0) (.b (.and (.not (.v 2)) (.le p3e28 p3e30)) (.b (.le p3e31 p3e33) (.i (.v 103) (.i (.v 104) (.i (.v 4) (.i (.v 5) .nil)))))))) cx hl hst hS (fun _ => (by rfl)) (fun _ => (by rfl)) (fun _ => (ne3a rfl rfl)) (code_c hK) (num_c hK) ?_ ?_
  · show b2i (((.and (.not (.v 2)) (.le p3e28 p3e30)) : SB).den E) = _
    rw [b2i_iff, is_1 hK]
    (try rw [hpc])
    simp only [pE, inpE, Nat.reduceMul, Nat.reduceAdd, d_c, d_v, d_bv, d_add, d_sub, d_mul, d_tdiv, d_rd, d_av, p3e3, p3e24, p3e25, p3e26, p3e28, p3e29, p3e30, and_t, not_t, le_t, b2i_z, duE]
    (try (rw [tdn (by have g := (good8 cx.hI cx.hsc).2.1 0 (by omega); simp only [okP, fE, pE, Nat.reduceMul, Nat.reduceAdd] at g; omega)]))
  · show b2i (((.le p3e31 p3e33) : SB).den E) = _
    rw [b2i_iff, also_1 hK]
    simp only [fE, cE, inpE, d_c, d_v, d_add, d_sub, d_mul, d_tdiv, d_rd, d_av, p3e3, p3e24, p3e25, p3e27, p3e31, p3e32, p3e33, le_t, duE]
    (try (rw [tdn (by have g := (good8 cx.hI cx.hsc).1; simp only [okP, fE, cE] at g; omega)]))
theorem w3_7 (cx : Cx 3 E0 E k) : Gl 3 E0 E p3x7 := by
  intro hf
  simp only [facts_cons, p3f11, p3f10, p3f4, p3f3, p3f2, p3f1, p3f0] at hf
  obtain ⟨a0, a1, a2, a3, a4, a5, a6, a7, a8, a9, a10, a11, a12, a13, _⟩ := hf
  simp only [le_t, le_f, lt_t, eq_t, eq_f, d_c, d_v, d_add, d_mul, d_rd, d_av, p3e3, p3e6, p3e7, p3e8, p3e9, p3e10, p3e11, p3e12, p3e24, p3e25] at a0 a1 a2 a3 a4 a5 a6 a7 a8 a9 a10 a11 a12 a13
  have hl : E.i 20 < E.i 0 := a13
  obtain ⟨hin, h1, h2⟩ := cx.in hl
  have hS : (E.a 0 (E.i 20 * 6 + 1).toNat).toNat = 0 := by omega
  have hK : E.a 0 (E.i 20 * 6).toNat = 1 := by omega
  simp only [okIn, inpE, hS, fE, pE, cE, Nat.reduceMul, Nat.reduceAdd] at hin
  omega
theorem w3_8 (cx : Cx 3 E0 E k) : Gl 3 E0 E p3x8 := by
  intro hf
  simp only [facts_cons, p3f10, p3f4, p3f3, p3f2, p3f1, p3f0] at hf
  obtain ⟨a0, a1, a2, a3, a4, a5, a6, a7, a8, a9, a10, a11, a12, _⟩ := hf
  simp only [le_t, le_f, lt_t, eq_t, eq_f, d_c, d_v, d_add, d_mul, d_rd, d_av, p3e3, p3e6, p3e7, p3e8, p3e9, p3e10, p3e11, p3e12, p3e24, p3e25] at a0 a1 a2 a3 a4 a5 a6 a7 a8 a9 a10 a11 a12
  have hl : E.i 20 < E.i 0 := a12
  obtain ⟨hin, h1, h2⟩ := cx.in hl
  have hS : (E.a 0 (E.i 20 * 6 + 1).toNat).toNat = 0 := by omega
  have hK : E.a 0 (E.i 20 * 6).toNat = 1 := by omega
  simp only [okIn, inpE, hS, fE, pE, cE, Nat.reduceMul, Nat.reduceAdd] at hin
  omega
theorem w3_9 (cx : Cx 3 E0 E k) : Gl 3 E0 E p3x9 := by
  intro hf
  simp only [facts_cons, p3f12, p3f10, p3f4, p3f3, p3f2, p3f1, p3f0] at hf
  obtain ⟨a0, a1, a2, a3, a4, a5, a6, a7, a8, a9, a10, a11, a12, a13, _⟩ := hf
  simp only [le_t, lt_t, eq_t, eq_f, d_c, d_v, d_add, d_mul, d_rd, d_av, p3e3, p3e6, p3e7, p3e8, p3e9, p3e10, p3e11, p3e12] at a0 a1 a2 a3 a4 a5 a6 a7 a8 a9 a10 a11 a12 a13
  have hl : E.i 20 < E.i 0 := a13
  obtain ⟨hin, h1, h2⟩ := cx.in hl
  obtain ⟨hS, hK, hpc⟩ := sk8 (E := E) (c := 0) (kd := 2) (by omega) (by omega)
  have hst : stp 1 (fE E) (inpE E) = _ := stp2 hK
  (try rw [hpc] at hst)
  exact go8s (.i (.c 0) (.i (.c 0) (.b (.c false) (.b (.c false) (.i (.v 103) (.i (.v 104) (.i (.v 4) (.i (.v 5) .nil)))))))) cx hl hst hS (fun _ => (by rfl)) (fun _ => (by rfl)) (fun _ => (ne3a rfl rfl)) (code_c hK) (num_c hK) (is_c hK) (also_c hK)
theorem w3_10 (cx : Cx 3 E0 E k) : Gl 3 E0 E p3x10 := by
  intro hf
  simp only [facts_cons, p3f12, p3f10, p3f4, p3f3, p3f2, p3f1, p3f0] at hf
  obtain ⟨a0, a1, a2, a3, a4, a5, a6, a7, a8, a9, a10, a11, a12, a13, _⟩ := hf
  simp only [le_t, le_f, lt_t, eq_t, eq_f, d_c, d_v, d_add, d_mul, d_rd, d_av, p3e3, p3e6, p3e7, p3e8, p3e9, p3e10, p3e11, p3e12] at a0 a1 a2 a3 a4 a5 a6 a7 a8 a9 a10 a11 a12 a13
  have hl : E.i 20 < E.i 0 := a13
  obtain ⟨hin, h1, h2⟩ := cx.in hl
  have hS : (E.a 0 (E.i 20 * 6 + 1).toNat).toNat = 0 := by omega
  have hK : E.a 0 (E.i 20 * 6).toNat = 2 := by omega
  simp only [okIn, inpE, hS, fE, pE, cE, Nat.reduceMul, Nat.reduceAdd] at hin
  omega
theorem w3_11 (cx : Cx 3 E0 E k) : Gl 3 E0 E p3x11 := by
  intro hf
  simp only [facts_cons, p3f13, p3f10, p3f4, p3f3, p3f2, p3f1, p3f0] at hf
  obtain ⟨a0, a1, a2, a3, a4, a5, a6, a7, a8, a9, a10, a11, a12, a13, a14, _⟩ := hf
  simp only [le_t, lt_t, eq_t, eq_f, d_c, d_v, d_bv, d_add, d_mul, d_rd, d_av, p3e3, p3e6, p3e7, p3e8, p3e9, p3e10, p3e11, p3e12] at a0 a1 a2 a3 a4 a5 a6 a7 a8 a9 a10 a11 a12 a13 a14
  have hl : E.i 20 < E.i 0 := a14
  obtain ⟨hin, h1, h2⟩ := cx.in hl
  obtain ⟨hS, hK, hpc⟩ := sk8 (E := E) (c := 0) (kd := 3) (by omega) (by omega)
  have T6 : ((fE E).p (inpE E).S.toNat).fin ≠ 0 := by rw [hpc]; exact b2i_ne.2 a0
  have hst : stp 1 (fE E) (inpE E) = _ := stp3a hK T6
  (try rw [hpc] at hst)
  refine go8n (.i (.c 0) (.i (.c 0) (.b (.c false) (.b (.c false) (.i (.v 103) (.i (.v 104) (.i (.v 4) (.i (.v 5) .nil)))))))) cx hl hst hS (fun _ => rfl) (fun _ => (al3 rfl rfl rfl)) (code_c hK) ?_ (is_c hK) (also_c hK)
  · rw [num_3a hK T6]; rfl
theorem w3_12 (cx : Cx 3 E0 E k) : Gl 3 E0 E p3x12 := by
  intro hf
  simp only [facts_cons, p3f13, p3f10, p3f4, p3f3, p3f2, p3f1, p3f0] at hf
  obtain ⟨a0, a1, a2, a3, a4, a5, a6, a7, a8, a9, a10, a11, a12, a13, a14, _⟩ := hf
  simp only [le_t, lt_t, eq_t, eq_f, d_c, d_v, d_bv, d_add, d_mul, d_rd, d_av, p3e3, p3e6, p3e7, p3e8, p3e9, p3e10, p3e11, p3e12] at a0 a1 a2 a3 a4 a5 a6 a7 a8 a9 a10 a11 a12 a13 a14
  have hl : E.i 20 < E.i 0 := a14
  obtain ⟨hin, h1, h2⟩ := cx.in hl
  obtain ⟨hS, hK, hpc⟩ := sk8 (E := E) (c := 0) (kd := 3) (by omega) (by omega)
  have T6 : ((fE E).p (inpE E).S.toNat).fin = 0 := by rw [hpc]; exact b2i_z.2 a0
  have hst : stp 1 (fE E) (inpE E) = _ := stp3b hK T6
  (try rw [hpc] at hst)
  refine go8s (.i (.c 0) (.i p3e44 (.b (.c false) (.b (.c false) (.i p3e40 (.i p3e39 (.i (.v 4) (.i p3e43 .nil)))))))) cx hl hst hS (fun _ => (by (cases E; cases cx.hE; rfl))) (fun _ => (by (cases E; cases cx.hE; rfl))) (fun _ => (ne3a rfl rfl)) (code_c hK) ?_ (is_c hK) (also_c hK) (by (cases E; cases cx.hE; rfl)) (by (cases E; cases cx.hE; rfl)) (by rfl) (by (cases E; cases cx.hE; rfl))
  · rw [num_3b hK T6]; (rw [hpc]; cases E; cases cx.hE; rfl)
theorem w3_13 (cx : Cx 3 E0 E k) : Gl 3 E0 E p3x13 := by
  intro hf
  simp only [facts_cons, p3f13, p3f10, p3f4, p3f3, p3f2, p3f1, p3f0] at hf
  obtain ⟨a0, a1, a2, a3, a4, a5, a6, a7, a8, a9, a10, a11, a12, a13, a14, _⟩ := hf
  simp only [le_t, lt_t, eq_t, eq_f, d_c, d_v, d_add, d_mul, d_rd, d_av, p3e3, p3e6, p3e7, p3e8, p3e9, p3e10, p3e11, p3e12] at a0 a1 a2 a3 a4 a5 a6 a7 a8 a9 a10 a11 a12 a13 a14
  have hl : E.i 20 < E.i 0 := a14
  obtain ⟨hin, h1, h2⟩ := cx.in hl
  obtain ⟨hS, hK, hpc⟩ := sk8 (E := E) (c := 0) (kd := 4) (by omega) (by omega)
  have hst : stp 1 (fE E) (inpE E) = _ := stp4 hK
  (try rw [hpc] at hst)
  refine go8n (.i (.c 0) (.i p3e50 (.b (.c false) (.b (.c false) (.i (.v 103) (.i (.v 104) (.i p3e49 (.i p3e48 .nil)))))))) cx hl hst hS (fun _ => (by (cases E; cases cx.hE; rfl))) (fun _ => (al3 rfl rfl rfl)) (code_c hK) ?_ (is_c hK) (also_c hK) (by rfl) (by rfl) (by (cases E; cases cx.hE; rfl)) (by (cases E; cases cx.hE; rfl))
  · rw [num_4 hK]; (cases E; cases cx.hE; rfl)
theorem w3_14 (cx : Cx 3 E0 E k) : Gl 3 E0 E p3x14 := by
  intro hf
  simp only [facts_cons, p3f14, p3f13, p3f10, p3f4, p3f3, p3f2, p3f1, p3f0] at hf
  obtain ⟨a0, a1, a2, a3, a4, a5, a6, a7, a8, a9, a10, a11, a12, a13, a14, a15, _⟩ := hf
  simp only [le_t, lt_t, eq_t, eq_f, d_c, d_v, d_add, d_mul, d_rd, d_av, p3e3, p3e6, p3e7, p3e8, p3e9, p3e10, p3e11, p3e12] at a0 a1 a2 a3 a4 a5 a6 a7 a8 a9 a10 a11 a12 a13 a14 a15
  have hl : E.i 20 < E.i 0 := a15
  obtain ⟨hin, h1, h2⟩ := cx.in hl
  obtain ⟨hS, hK, hpc⟩ := sk8 (E := E) (c := 0) (kd := 5) (by omega) (by omega)
  have hst : stp 1 (fE E) (inpE E) = _ := stp5 hK
  (try rw [hpc] at hst)
  refine go8s (.i (.c 0) (.i (.c 0) (.b (.lt (.v 109) p3e25) (.b (.c false) (.i (.v 103) (.i (.v 104) (.i (.v 4) (.i (.v 5) .nil)))))))) cx hl hst hS (fun _ => rfl) (fun _ => (by (simp only [← imx_max]; rfl))) (fun _ => (ne3a rfl rfl)) (code_c hK) (num_c hK) ?_ (also_c hK)
  · show b2i (((.lt (.v 109) p3e25) : SB).den E) = _
    rw [b2i_iff, is_5 hK]
    (try rw [hpc])
    simp only [pE, inpE, Nat.reduceMul, Nat.reduceAdd, d_c, d_v, d_add, d_mul, d_rd, d_av, p3e3, p3e24, p3e25, lt_t]
    (try done)
theorem w3_15 (cx : Cx 3 E0 E k) : Gl 3 E0 E p3x15 := by
  intro hf
  simp only [facts_cons, p3f14, p3f13, p3f10, p3f4, p3f3, p3f2, p3f1, p3f0] at hf
  obtain ⟨a0, a1, a2, a3, a4, a5, a6, a7, a8, a9, a10, a11, a12, a13, a14, a15, a16, _⟩ := hf
  simp only [le_t, lt_t, eq_t, eq_f, d_c, d_v, d_add, d_mul, d_rd, d_av, p3e3, p3e6, p3e7, p3e8, p3e9, p3e10, p3e11, p3e12] at a0 a1 a2 a3 a4 a5 a6 a7 a8 a9 a10 a11 a12 a13 a14 a15 a16
  have hl : E.i 20 < E.i 0 := a16
  obtain ⟨hin, h1, h2⟩ := cx.in hl
  obtain ⟨hS, hK, hpc⟩ := sk8 (E := E) (c := 0) (kd := 6) (by omega) (by omega)
  have hst : stp 1 (fE E) (inpE E) = _ := stp6 hK
  (try rw [hpc] at hst)
  refine go8n (.i (.c 0) (.i (.c 0) (.b (.lt (.v 10) p3e25) (.b (.c false) (.i (.v 103) (.i (.v 104) (.i (.v 4) (.i (.v 5) .nil)))))))) cx hl hst hS (fun _ => (by (simp only [← imx_max]; rfl))) (fun _ => (al3 rfl rfl rfl)) (code_c hK) (num_c hK) ?_ (also_c hK)
  · show b2i (((.lt (.v 10) p3e25) : SB).den E) = _
    rw [b2i_iff, is_6 hK]
    (try rw [hpc])
    simp only [fE, cE, inpE, d_c, d_v, d_add, d_mul, d_rd, d_av, p3e3, p3e24, p3e25, lt_t]
    (try done)
theorem w3_16 (cx : Cx 3 E0 E k) : Gl 3 E0 E p3x16 := by
  intro hf
  simp only [facts_cons, p3f17, p3f16, p3f15, p3f14, p3f13, p3f10, p3f4, p3f3, p3f2, p3f1, p3f0] at hf
  obtain ⟨a0, a1, a2, a3, a4, a5, a6, a7, a8, a9, a10, a11, a12, a13, a14, a15, a16, a17, a18, a19, a20, a21, _⟩ := hf
  simp only [le_t, lt_t, eq_t, eq_f, d_c, d_v, d_add, d_mul, d_rd, d_av, p3e3, p3e6, p3e7, p3e8, p3e9, p3e10, p3e11, p3e12, p3e24, p3e25, p3e56, p3e57] at a0 a1 a2 a3 a4 a5 a6 a7 a8 a9 a10 a11 a12 a13 a14 a15 a16 a17 a18 a19 a20 a21
  have hl : E.i 20 < E.i 0 := a21
  obtain ⟨hin, h1, h2⟩ := cx.in hl
  obtain ⟨hS, hK, hpc⟩ := sk8 (E := E) (c := 0) (kd := 7) (by omega) (by omega)
  have hst : stp 1 (fE E) (inpE E) = _ := stp7 hK
  (try rw [hpc] at hst)
  exact go8s (.i (.c 0) (.i (.c 0) (.b (.c true) (.b (.c false) (.i (.v 103) (.i (.v 104) (.i (.v 4) (.i (.v 5) .nil)))))))) cx hl hst hS (fun _ => (by rfl)) (fun _ => (by rfl)) (fun _ => (ne3a rfl rfl)) (code_c hK) (num_c hK) (by rw [if_pos (is_7 hK)]; rfl) (also_c hK)
theorem w3_17 (cx : Cx 3 E0 E k) : Gl 3 E0 E p3x17 := by
  intro hf
  simp only [facts_cons, p3f17, p3f16, p3f15, p3f14, p3f13, p3f10, p3f4, p3f3, p3f2, p3f1, p3f0] at hf
  obtain ⟨a0, a1, a2, a3, a4, a5, a6, a7, a8, a9, a10, a11, a12, a13, a14, a15, a16, a17, a18, a19, a20, a21, _⟩ := hf
  simp only [le_t, le_f, lt_t, eq_t, eq_f, d_c, d_v, d_add, d_mul, d_rd, d_av, p3e3, p3e6, p3e7, p3e8, p3e9, p3e10, p3e11, p3e12, p3e24, p3e25, p3e56, p3e57] at a0 a1 a2 a3 a4 a5 a6 a7 a8 a9 a10 a11 a12 a13 a14 a15 a16 a17 a18 a19 a20 a21
  have hl : E.i 20 < E.i 0 := a21
  obtain ⟨hin, h1, h2⟩ := cx.in hl
  have hS : (E.a 0 (E.i 20 * 6 + 1).toNat).toNat = 0 := by omega
  have hK : E.a 0 (E.i 20 * 6).toNat = 7 := by omega
  simp only [okIn, inpE, hS, fE, pE, cE, Nat.reduceMul, Nat.reduceAdd] at hin
  omega
theorem w3_18 (cx : Cx 3 E0 E k) : Gl 3 E0 E p3x18 := by
  intro hf
  simp only [facts_cons, p3f16, p3f15, p3f14, p3f13, p3f10, p3f4, p3f3, p3f2, p3f1, p3f0] at hf
  obtain ⟨a0, a1, a2, a3, a4, a5, a6, a7, a8, a9, a10, a11, a12, a13, a14, a15, a16, a17, a18, a19, a20, _⟩ := hf
  simp only [le_t, le_f, lt_t, eq_t, eq_f, d_c, d_v, d_add, d_mul, d_rd, d_av, p3e3, p3e6, p3e7, p3e8, p3e9, p3e10, p3e11, p3e12, p3e24, p3e25, p3e56] at a0 a1 a2 a3 a4 a5 a6 a7 a8 a9 a10 a11 a12 a13 a14 a15 a16 a17 a18 a19 a20
  have hl : E.i 20 < E.i 0 := a20
  obtain ⟨hin, h1, h2⟩ := cx.in hl
  have hS : (E.a 0 (E.i 20 * 6 + 1).toNat).toNat = 0 := by omega
  have hK : E.a 0 (E.i 20 * 6).toNat = 7 := by omega
  simp only [okIn, inpE, hS, fE, pE, cE, Nat.reduceMul, Nat.reduceAdd] at hin
  omega
theorem w3_19 (cx : Cx 3 E0 E k) : Gl 3 E0 E p3x19 := by
  intro hf
  simp only [facts_cons, p3f16, p3f15, p3f14, p3f13, p3f10, p3f4, p3f3, p3f2, p3f1, p3f0] at hf
  obtain ⟨a0, a1, a2, a3, a4, a5, a6, a7, a8, a9, a10, a11, a12, a13, a14, a15, a16, a17, a18, a19, _⟩ := hf
  simp only [le_t, le_f, lt_t, eq_t, eq_f, d_c, d_v, d_add, d_mul, d_rd, d_av, p3e3, p3e6, p3e7, p3e8, p3e9, p3e10, p3e11, p3e12, p3e24, p3e25] at a0 a1 a2 a3 a4 a5 a6 a7 a8 a9 a10 a11 a12 a13 a14 a15 a16 a17 a18 a19
  have hl : E.i 20 < E.i 0 := a19
  obtain ⟨hin, h1, h2⟩ := cx.in hl
  have hS : (E.a 0 (E.i 20 * 6 + 1).toNat).toNat = 0 := by omega
  have hK : E.a 0 (E.i 20 * 6).toNat = 7 := by omega
  simp only [okIn, inpE, hS, fE, pE, cE, Nat.reduceMul, Nat.reduceAdd] at hin
  omega
theorem w3_20 (cx : Cx 3 E0 E k) : Gl 3 E0 E p3x20 := by
  intro hf
  simp only [facts_cons, p3f15, p3f14, p3f13, p3f10, p3f4, p3f3, p3f2, p3f1, p3f0] at hf
  obtain ⟨a0, a1, a2, a3, a4, a5, a6, a7, a8, a9, a10, a11, a12, a13, a14, a15, a16, a17, a18, _⟩ := hf
  simp only [le_t, le_f, lt_t, eq_t, eq_f, d_c, d_v, d_add, d_mul, d_rd, d_av, p3e3, p3e6, p3e7, p3e8, p3e9, p3e10, p3e11, p3e12, p3e24, p3e25] at a0 a1 a2 a3 a4 a5 a6 a7 a8 a9 a10 a11 a12 a13 a14 a15 a16 a17 a18
  have hl : E.i 20 < E.i 0 := a18
  obtain ⟨hin, h1, h2⟩ := cx.in hl
  have hS : (E.a 0 (E.i 20 * 6 + 1).toNat).toNat = 0 := by omega
  have hK : E.a 0 (E.i 20 * 6).toNat = 7 := by omega
  simp only [okIn, inpE, hS, fE, pE, cE, Nat.reduceMul, Nat.reduceAdd] at hin
  omega
theorem w3_21 (cx : Cx 3 E0 E k) : Gl 3 E0 E p3x21 := by
  intro hf
  simp only [facts_cons, p3f15, p3f14, p3f13, p3f10, p3f4, p3f3, p3f2, p3f1, p3f0] at hf
  obtain ⟨a0, a1, a2, a3, a4, a5, a6, a7, a8, a9, a10, a11, a12, a13, a14, a15, a16, a17, a18, _⟩ := hf
  simp only [le_t, lt_t, eq_t, eq_f, d_c, d_v, d_add, d_mul, d_rd, d_av, p3e3, p3e6, p3e7, p3e8, p3e9, p3e10, p3e11, p3e12] at a0 a1 a2 a3 a4 a5 a6 a7 a8 a9 a10 a11 a12 a13 a14 a15 a16 a17 a18
  have hl : E.i 20 < E.i 0 := a18
  obtain ⟨hin, h1, h2⟩ := cx.in hl
  obtain ⟨hS, hK, hpc⟩ := sk8 (E := E) (c := 0) (kd := 8) (by omega) (by omega)
  have hst : stp 1 (fE E) (inpE E) = _ := stp8 hK
  (try rw [hpc] at hst)
  refine go8n (.i (.c 0) (.i p3e61 (.b (.c false) (.b (.c false) (.i (.v 103) (.i (.v 104) (.i (.v 4) (.i (.v 5) .nil)))))))) cx hl hst hS (fun _ => rfl) (fun _ => (al3 rfl rfl rfl)) (code_c hK) ?_ (is_c hK) (also_c hK)
  · rw [num_8 hK]; (show (p3e61 : SE).den E = _; rw [hpc]; (simp only [fE, cE, pE, Nat.reduceMul, Nat.reduceAdd, d_v, d_sub, d_mn, p3e59, p3e60, p3e61, imn_min]; done))
theorem w3_22 (cx : Cx 3 E0 E k) : Gl 3 E0 E p3x22 := by
  intro hf
  simp only [facts_cons, p3f18, p3f15, p3f14, p3f13, p3f10, p3f4, p3f3, p3f2, p3f1, p3f0] at hf
  obtain ⟨a0, a1, a2, a3, a4, a5, a6, a7, a8, a9, a10, a11, a12, a13, a14, a15, a16, a17, a18, a19, _⟩ := hf
  simp only [le_t, lt_t, eq_t, eq_f, d_c, d_v, d_add, d_mul, d_rd, d_av, p3e3, p3e6, p3e7, p3e8, p3e9, p3e10, p3e11, p3e12] at a0 a1 a2 a3 a4 a5 a6 a7 a8 a9 a10 a11 a12 a13 a14 a15 a16 a17 a18 a19
  have hl : E.i 20 < E.i 0 := a19
  obtain ⟨hin, h1, h2⟩ := cx.in hl
  obtain ⟨hS, hK, hpc⟩ := sk8 (E := E) (c := 0) (kd := 9) (by omega) (by omega)
  have hst : stp 1 (fE E) (inpE E) = _ := stp9 hK
  (try rw [hpc] at hst)
  refine go8s (.i (.c 0) (.i (.c 0) (.b (.and (.not (.lt (.v 108) (.v 109))) (.not (.eq (.v 109) (.v 110)))) (.b (.c false) (.i (.v 103) (.i (.v 104) (.i (.v 4) (.i (.v 5) .nil)))))))) cx hl hst hS (fun _ => rfl) (fun _ => (by (show (⟨((.v 101) : SE).den E, ((.v 102) : SE).den E, ((.v 103) : SE).den E, ((.v 104) : SE).den E, ((.v 105) : SE).den E, ((.v 106) : SE).den E, ((.v 107) : SE).den E, ((.v 108) : SE).den E, ((.v 109) : SE).den E, (p3e63 : SE).den E, b2i (((.v 2) : SB).den E), 0⟩ : P1) = _; (simp only [blkP, pE, Nat.reduceMul, Nat.reduceAdd, d_v, d_bv, d_ite, p3e63, ite_lt]; rfl)))) (fun _ => (ne3a rfl rfl)) (code_c hK) (num_c hK) ?_ (also_c hK)
  · show b2i (((.and (.not (.lt (.v 108) (.v 109))) (.not (.eq (.v 109) (.v 110)))) : SB).den E) = _
    rw [b2i_iff, is_9 hK]
    (try rw [hpc])
    simp only [newB, pE, Nat.reduceMul, Nat.reduceAdd, Int.not_lt, d_v, and_t, not_t, lt_f, eq_f, ne_eq]
    (try done)
theorem w3_23 (cx : Cx 3 E0 E k) : Gl 3 E0 E p3x23 := by
  intro hf
  simp only [facts_cons, p3f18, p3f15, p3f14, p3f13, p3f10, p3f4, p3f3, p3f2, p3f1, p3f0] at hf
  obtain ⟨a0, a1, a2, a3, a4, a5, a6, a7, a8, a9, a10, a11, a12, a13, a14, a15, a16, a17, a18, a19, a20, _⟩ := hf
  simp only [le_t, lt_t, eq_t, eq_f, d_c, d_v, d_add, d_mul, d_rd, d_av, p3e3, p3e6, p3e7, p3e8, p3e9, p3e10, p3e11, p3e12] at a0 a1 a2 a3 a4 a5 a6 a7 a8 a9 a10 a11 a12 a13 a14 a15 a16 a17 a18 a19 a20
  have hl : E.i 20 < E.i 0 := a20
  obtain ⟨hin, h1, h2⟩ := cx.in hl
  obtain ⟨hS, hK, hpc⟩ := sk8 (E := E) (c := 0) (kd := 10) (by omega) (by omega)
  have hst : stp 1 (fE E) (inpE E) = _ := stp10 hK
  (try rw [hpc] at hst)
  refine go8n (.i (.c 0) (.i p3e66 (.b (.and (.not (.lt (.v 9) (.v 10))) (.not (.eq (.v 10) (.v 11)))) (.b (.c false) (.i (.v 103) (.i (.v 104) (.i (.v 4) (.i (.v 5) .nil)))))))) cx hl hst hS (fun _ => (by (show (⟨((.v 2) : SE).den E, ((.v 3) : SE).den E, ((.v 4) : SE).den E, ((.v 5) : SE).den E, ((.v 6) : SE).den E, ((.v 7) : SE).den E, ((.v 8) : SE).den E, ((.v 9) : SE).den E, ((.v 10) : SE).den E, (p3e65 : SE).den E, 0, 0⟩ : P1) = _; (simp only [blkP, fE, cE, d_v, d_ite, p3e65, ite_lt]; rfl)))) (fun _ => (al3 rfl rfl rfl)) (code_c hK) ?_ ?_ (also_c hK)
  · rw [num_10 hK]; (show (p3e66 : SE).den E = _; simp only [newB, fE, cE, Int.not_lt, d_c, d_v, d_ite, p3e66, and_t, not_t, lt_f, eq_f, ne_eq]; done)
  · show b2i (((.and (.not (.lt (.v 9) (.v 10))) (.not (.eq (.v 10) (.v 11)))) : SB).den E) = _
    rw [b2i_iff, is_10 hK]
    (try rw [hpc])
    simp only [newB, fE, cE, Int.not_lt, d_v, and_t, not_t, lt_f, eq_f, ne_eq]
    (try done)
theorem w3_24 (cx : Cx 3 E0 E k) : Gl 3 E0 E p3x24 := by
  intro hf
  simp only [facts_cons, p3f20, p3f19, p3f18, p3f15, p3f14, p3f13, p3f10, p3f4, p3f3, p3f2, p3f1, p3f0] at hf
  obtain ⟨a0, a1, a2, a3, a4, a5, a6, a7, a8, a9, a10, a11, a12, a13, a14, a15, a16, a17, a18, a19, a20, a21, a22, a23, a24, _⟩ := hf
  simp only [le_t, lt_t, eq_t, eq_f, d_c, d_v, d_bv, d_add, d_mul, d_rd, d_av, p3e3, p3e6, p3e7, p3e8, p3e9, p3e10, p3e11, p3e12, p3e24, p3e25] at a0 a1 a2 a3 a4 a5 a6 a7 a8 a9 a10 a11 a12 a13 a14 a15 a16 a17 a18 a19 a20 a21 a22 a23 a24
  have hl : E.i 20 < E.i 0 := a24
  obtain ⟨hin, h1, h2⟩ := cx.in hl
  have hS : (E.a 0 (E.i 20 * 6 + 1).toNat).toNat = 0 := by omega
  have hK : E.a 0 (E.i 20 * 6).toNat = 11 := by omega
  simp only [okIn, inpE, hS, fE, pE, cE, Nat.reduceMul, Nat.reduceAdd] at hin
  (cases hb : E.b 1 <;> simp only [hb, b2i, Bool.false_eq_true, ↓reduceIte] at a0 hin <;> omega)
theorem w3_25 (cx : Cx 3 E0 E k) : Gl 3 E0 E p3x25 := by
  intro hf
  simp only [facts_cons, p3f20, p3f19, p3f18, p3f15, p3f14, p3f13, p3f10, p3f4, p3f3, p3f2, p3f1, p3f0] at hf
  obtain ⟨a0, a1, a2, a3, a4, a5, a6, a7, a8, a9, a10, a11, a12, a13, a14, a15, a16, a17, a18, a19, a20, a21, a22, a23, a24, _⟩ := hf
  simp only [le_t, lt_t, eq_t, eq_f, d_c, d_v, d_bv, d_add, d_mul, d_rd, d_av, p3e3, p3e6, p3e7, p3e8, p3e9, p3e10, p3e11, p3e12, p3e24, p3e25] at a0 a1 a2 a3 a4 a5 a6 a7 a8 a9 a10 a11 a12 a13 a14 a15 a16 a17 a18 a19 a20 a21 a22 a23 a24
  have hl : E.i 20 < E.i 0 := a24
  obtain ⟨hin, h1, h2⟩ := cx.in hl
  obtain ⟨hS, hK, hpc⟩ := sk8 (E := E) (c := 0) (kd := 11) (by omega) (by omega)
  have hst : stp 1 (fE E) (inpE E) = _ := stp11 hK
  (try rw [hpc] at hst)
  exact go8n (.i (.c 0) (.i (.c 0) (.b (.c false) (.b (.c false) (.i (.v 103) (.i (.v 104) (.i (.v 4) (.i (.v 5) .nil)))))))) cx hl hst hS (fun _ => rfl) (fun _ => (al3 rfl rfl rfl)) (code_c hK) (num_c hK) (is_c hK) (also_c hK)
theorem w3_26 (cx : Cx 3 E0 E k) : Gl 3 E0 E p3x26 := by
  intro hf
  simp only [facts_cons, p3f20, p3f19, p3f18, p3f15, p3f14, p3f13, p3f10, p3f4, p3f3, p3f2, p3f1, p3f0] at hf
  obtain ⟨a0, a1, a2, a3, a4, a5, a6, a7, a8, a9, a10, a11, a12, a13, a14, a15, a16, a17, a18, a19, a20, a21, a22, a23, _⟩ := hf
  simp only [le_t, le_f, lt_t, eq_t, eq_f, d_c, d_v, d_add, d_mul, d_rd, d_av, p3e3, p3e6, p3e7, p3e8, p3e9, p3e10, p3e11, p3e12, p3e24, p3e25] at a0 a1 a2 a3 a4 a5 a6 a7 a8 a9 a10 a11 a12 a13 a14 a15 a16 a17 a18 a19 a20 a21 a22 a23
  have hl : E.i 20 < E.i 0 := a23
  obtain ⟨hin, h1, h2⟩ := cx.in hl
  have hS : (E.a 0 (E.i 20 * 6 + 1).toNat).toNat = 0 := by omega
  have hK : E.a 0 (E.i 20 * 6).toNat = 11 := by omega
  simp only [okIn, inpE, hS, fE, pE, cE, Nat.reduceMul, Nat.reduceAdd] at hin
  omega
theorem w3_27 (cx : Cx 3 E0 E k) : Gl 3 E0 E p3x27 := by
  intro hf
  simp only [facts_cons, p3f19, p3f18, p3f15, p3f14, p3f13, p3f10, p3f4, p3f3, p3f2, p3f1, p3f0] at hf
  obtain ⟨a0, a1, a2, a3, a4, a5, a6, a7, a8, a9, a10, a11, a12, a13, a14, a15, a16, a17, a18, a19, a20, a21, a22, _⟩ := hf
  simp only [le_t, le_f, lt_t, eq_t, eq_f, d_c, d_v, d_add, d_mul, d_rd, d_av, p3e3, p3e6, p3e7, p3e8, p3e9, p3e10, p3e11, p3e12, p3e24, p3e25] at a0 a1 a2 a3 a4 a5 a6 a7 a8 a9 a10 a11 a12 a13 a14 a15 a16 a17 a18 a19 a20 a21 a22
  have hl : E.i 20 < E.i 0 := a22
  obtain ⟨hin, h1, h2⟩ := cx.in hl
  have hS : (E.a 0 (E.i 20 * 6 + 1).toNat).toNat = 0 := by omega
  have hK : E.a 0 (E.i 20 * 6).toNat = 11 := by omega
  simp only [okIn, inpE, hS, fE, pE, cE, Nat.reduceMul, Nat.reduceAdd] at hin
  omega
theorem w3_28 (cx : Cx 3 E0 E k) : Gl 3 E0 E p3x28 := by
  intro hf
  simp only [facts_cons, p3f19, p3f18, p3f15, p3f14, p3f13, p3f10, p3f4, p3f3, p3f2, p3f1, p3f0] at hf
  obtain ⟨a0, a1, a2, a3, a4, a5, a6, a7, a8, a9, a10, a11, a12, a13, a14, a15, a16, a17, a18, a19, a20, a21, _⟩ := hf
  simp only [le_t, lt_t, eq_f, d_c, d_v, d_add, d_mul, d_rd, d_av, p3e3, p3e6, p3e7, p3e8, p3e9, p3e10, p3e11, p3e12] at a0 a1 a2 a3 a4 a5 a6 a7 a8 a9 a10 a11 a12 a13 a14 a15 a16 a17 a18 a19 a20 a21
  have hl : E.i 20 < E.i 0 := a21
  obtain ⟨hin, h1, h2⟩ := cx.in hl
  exfalso; omega
theorem w3_29 (cx : Cx 3 E0 E k) : Gl 3 E0 E p3x29 := by
  intro hf
  simp only [facts_cons, p3f21, p3f4, p3f3, p3f2, p3f1, p3f0] at hf
  obtain ⟨a0, a1, a2, a3, a4, a5, a6, a7, a8, a9, a10, a11, a12, _⟩ := hf
  simp only [and_t, not_t, le_t, le_f, lt_t, eq_t, eq_f, d_c, d_v, d_bv, d_add, d_mul, d_rd, d_av, p3e3, p3e4, p3e5, p3e6, p3e7, p3e8, p3e9, p3e10, p3e11, p3e12] at a0 a1 a2 a3 a4 a5 a6 a7 a8 a9 a10 a11 a12
  have hl : E.i 20 < E.i 0 := a12
  obtain ⟨hin, h1, h2⟩ := cx.in hl
  obtain ⟨hS, hK, hpc⟩ := sk8 (E := E) (c := 1) (kd := 0) (by omega) (by omega)
  obtain ⟨A6, A7, A3, A4⟩ := aa1 hpc
  have T6 := A6.2 (by exact .inl a0)
  have hst : stp 1 (fE E) (inpE E) = _ := stp0a hK T6
  (try rw [hpc] at hst)
  exact go8n (.i (.c 6) (.i (.c 0) (.b (.c false) (.b (.c false) (.i (.v 203) (.i (.v 204) (.i (.v 4) (.i (.v 5) .nil)))))))) cx hl hst hS (fun _ => rfl) (fun _ => (al3 rfl rfl rfl)) (code_6 hK (.inl T6)).symm (num_c hK) (is_c hK) (also_c hK)
theorem w3_30 (cx : Cx 3 E0 E k) : Gl 3 E0 E p3x30 := by
  intro hf
  simp only [facts_cons, p3f22, p3f21, p3f4, p3f3, p3f2, p3f1, p3f0] at hf
  obtain ⟨a0, a1, a2, a3, a4, a5, a6, a7, a8, a9, a10, a11, a12, a13, _⟩ := hf
  simp only [and_t, and_f, not_t, le_t, le_f, lt_t, eq_t, eq_f, d_c, d_v, d_bv, d_add, d_mul, d_rd, d_av, p3e3, p3e4, p3e5, p3e6, p3e7, p3e8, p3e9, p3e10, p3e11, p3e12] at a0 a1 a2 a3 a4 a5 a6 a7 a8 a9 a10 a11 a12 a13
  have hl : E.i 20 < E.i 0 := a13
  obtain ⟨hin, h1, h2⟩ := cx.in hl
  obtain ⟨hS, hK, hpc⟩ := sk8 (E := E) (c := 1) (kd := 0) (by omega) (by omega)
  obtain ⟨A6, A7, A3, A4⟩ := aa1 hpc
  have T6 := A6.2 (by exact .inr a0)
  have hst : stp 1 (fE E) (inpE E) = _ := stp0a hK T6
  (try rw [hpc] at hst)
  exact go8n (.i (.c 6) (.i (.c 0) (.b (.c false) (.b (.c false) (.i (.v 203) (.i (.v 204) (.i (.v 4) (.i (.v 5) .nil)))))))) cx hl hst hS (fun _ => rfl) (fun _ => (al3 rfl rfl rfl)) (code_6 hK (.inl T6)).symm (num_c hK) (is_c hK) (also_c hK)
theorem w3_31 (cx : Cx 3 E0 E k) : Gl 3 E0 E p3x31 := by
  intro hf
  simp only [facts_cons, p3f23, p3f22, p3f21, p3f4, p3f3, p3f2, p3f1, p3f0] at hf
  obtain ⟨a0, a1, a2, a3, a4, a5, a6, a7, a8, a9, a10, a11, a12, a13, a14, _⟩ := hf
  simp only [and_t, and_f, not_t, le_t, le_f, lt_t, eq_t, eq_f, d_c, d_v, d_bv, d_add, d_mul, d_rd, d_av, p3e3, p3e4, p3e5, p3e6, p3e7, p3e8, p3e9, p3e10, p3e11, p3e12] at a0 a1 a2 a3 a4 a5 a6 a7 a8 a9 a10 a11 a12 a13 a14
  have hl : E.i 20 < E.i 0 := a14
  obtain ⟨hin, h1, h2⟩ := cx.in hl
  obtain ⟨hS, hK, hpc⟩ := sk8 (E := E) (c := 1) (kd := 0) (by omega) (by omega)
  obtain ⟨A6, A7, A3, A4⟩ := aa1 hpc
  have F6 : ¬ _ := (fun h => by have h := A6.1 h; cases hb : E.b 3 <;> simp only [hb, Bool.false_eq_true, false_and, or_false, true_and, ne_eq] at h a1 a2 <;> omega)
  have T7 := A7.2 (by exact a0)
  have hst : stp 1 (fE E) (inpE E) = _ := stp0b hK F6 T7
  (try rw [hpc] at hst)
  exact go8s (.i (.c 6) (.i (.c 0) (.b (.c false) (.b (.c false) (.i (.v 203) (.i (.v 204) (.i (.v 4) (.i (.v 5) .nil)))))))) cx hl hst hS (fun _ => rfl) (fun _ => (by rfl)) (fun _ => (ne3b rfl rfl)) (code_6 hK (.inr T7)).symm (num_c hK) (is_c hK) (also_c hK)
theorem w3_32 (cx : Cx 3 E0 E k) : Gl 3 E0 E p3x32 := by
  intro hf
  simp only [facts_cons, p3f24, p3f23, p3f22, p3f21, p3f4, p3f3, p3f2, p3f1, p3f0] at hf
  obtain ⟨a0, a1, a2, a3, a4, a5, a6, a7, a8, a9, a10, a11, a12, a13, a14, a15, _⟩ := hf
  simp only [and_t, and_f, not_t, le_t, le_f, lt_t, eq_t, eq_f, d_c, d_v, d_bv, d_add, d_mul, d_rd, d_av, p3e3, p3e4, p3e5, p3e6, p3e7, p3e8, p3e9, p3e10, p3e11, p3e12] at a0 a1 a2 a3 a4 a5 a6 a7 a8 a9 a10 a11 a12 a13 a14 a15
  have hl : E.i 20 < E.i 0 := a15
  obtain ⟨hin, h1, h2⟩ := cx.in hl
  obtain ⟨hS, hK, hpc⟩ := sk8 (E := E) (c := 1) (kd := 0) (by omega) (by omega)
  obtain ⟨A6, A7, A3, A4⟩ := aa1 hpc
  have F6 : ¬ _ := (fun h => by have h := A6.1 h; cases hb : E.b 3 <;> simp only [hb, Bool.false_eq_true, false_and, or_false, true_and, ne_eq] at h a2 a3 <;> omega)
  have F7 : ¬ _ := (fun h => by have h := A7.1 h; omega)
  have T3 := A3.2 (by exact a0)
  have hst : stp 1 (fE E) (inpE E) = _ := stp0c hK F6 F7 T3
  (try rw [hpc] at hst)
  exact go8s (.i (.c 3) (.i (.c 0) (.b (.c false) (.b (.c false) (.i (.v 203) (.i (.v 204) (.i (.v 4) (.i (.v 5) .nil)))))))) cx hl hst hS (fun _ => rfl) (fun _ => (by (show (⟨(p3e73 : SE).den E, ((.v 202) : SE).den E, ((.v 203) : SE).den E, ((.v 204) : SE).den E, ((.v 205) : SE).den E, (p3e72 : SE).den E, (p3e71 : SE).den E, ((.v 208) : SE).den E, ((.v 209) : SE).den E, ((.v 210) : SE).den E, b2i (((.not (.and (.not (.v 3)) (.eq p3e5 (.c 0)))) : SB).den E), 0⟩ : P1) = _; (simp only [comeP, pE, inpE, Nat.reduceMul, Nat.reduceAdd, not_d, and_d, eq_d, d_c, d_v, d_ap, d_sli, d_slnil, d_bv, d_add, d_sub, d_mul, d_mx, d_rd, d_av, p3e3, p3e4, p3e5, p3e6, p3e7, p3e11, p3e12, p3e70, p3e71, p3e72, p3e73, cx.hE, f9, f10, imx_max, fin_or2]; rfl)))) (fun _ => (ne3b rfl rfl)) (code_3 hK F6 F7 (.inl T3)).symm (num_c hK) (is_c hK) (also_c hK)
theorem w3_33 (cx : Cx 3 E0 E k) : Gl 3 E0 E p3x33 := by
  intro hf
  simp only [facts_cons, p3f25, p3f24, p3f23, p3f22, p3f21, p3f4, p3f3, p3f2, p3f1, p3f0] at hf
  obtain ⟨a0, a1, a2, a3, a4, a5, a6, a7, a8, a9, a10, a11, a12, a13, a14, a15, a16, _⟩ := hf
  simp only [and_t, and_f, not_t, le_t, le_f, lt_t, eq_t, eq_f, d_c, d_v, d_bv, d_add, d_sub, d_mul, d_rd, d_av, p3e3, p3e4, p3e5, p3e6, p3e7, p3e8, p3e9, p3e10, p3e11, p3e12, p3e70, p3e79] at a0 a1 a2 a3 a4 a5 a6 a7 a8 a9 a10 a11 a12 a13 a14 a15 a16
  have hl : E.i 20 < E.i 0 := a16
  obtain ⟨hin, h1, h2⟩ := cx.in hl
  obtain ⟨hS, hK, hpc⟩ := sk8 (E := E) (c := 1) (kd := 0) (by omega) (by omega)
  obtain ⟨A6, A7, A3, A4⟩ := aa1 hpc
  have F6 : ¬ _ := (fun h => by have h := A6.1 h; cases hb : E.b 3 <;> simp only [hb, Bool.false_eq_true, false_and, or_false, true_and, ne_eq] at h a3 a4 <;> omega)
  have F7 : ¬ _ := (fun h => by have h := A7.1 h; omega)
  have F3 : ¬ _ := (fun h => by have h := A3.1 h; omega)
  have T4 := A4.2 (by exact a0)
  have hst : stp 1 (fE E) (inpE E) = _ := stp0d hK F6 F7 F3
  (try rw [hpc] at hst)
  exact go8s (.i (.c 3) (.i (.c 0) (.b (.c false) (.b (.c false) (.i (.v 203) (.i (.v 204) (.i (.v 4) (.i (.v 5) .nil)))))))) cx hl hst hS (fun _ => (by (cases E; cases cx.hE; simp only [comeC, ← imx_max]; rfl))) (fun _ => (by (show (⟨(p3e73 : SE).den E, ((.v 202) : SE).den E, ((.v 203) : SE).den E, ((.v 204) : SE).den E, ((.v 205) : SE).den E, (p3e72 : SE).den E, (p3e71 : SE).den E, ((.v 208) : SE).den E, ((.v 209) : SE).den E, ((.v 210) : SE).den E, b2i (((.not (.and (.not (.v 3)) (.eq p3e5 (.c 0)))) : SB).den E), 0⟩ : P1) = _; (simp only [comeP, pE, inpE, Nat.reduceMul, Nat.reduceAdd, not_d, and_d, eq_d, d_c, d_v, d_ap, d_sli, d_slnil, d_bv, d_add, d_sub, d_mul, d_mx, d_rd, d_av, p3e3, p3e4, p3e5, p3e6, p3e7, p3e11, p3e12, p3e70, p3e71, p3e72, p3e73, cx.hE, f9, f10, imx_max, fin_or2]; rfl)))) (fun _ => (ne3b rfl rfl)) (code_3 hK F6 F7 (.inr T4)).symm (num_c hK) (is_c hK) (also_c hK)
theorem w3_34 (cx : Cx 3 E0 E k) : Gl 3 E0 E p3x34 := by
  intro hf
  simp only [facts_cons, p3f25, p3f24, p3f23, p3f22, p3f21, p3f4, p3f3, p3f2, p3f1, p3f0] at hf
  obtain ⟨a0, a1, a2, a3, a4, a5, a6, a7, a8, a9, a10, a11, a12, a13, a14, a15, a16, _⟩ := hf
  simp only [and_t, and_f, not_t, le_t, le_f, lt_t, eq_t, eq_f, d_c, d_v, d_bv, d_add, d_sub, d_mul, d_rd, d_av, p3e3, p3e4, p3e5, p3e6, p3e7, p3e8, p3e9, p3e10, p3e11, p3e12, p3e70, p3e79] at a0 a1 a2 a3 a4 a5 a6 a7 a8 a9 a10 a11 a12 a13 a14 a15 a16
  have hl : E.i 20 < E.i 0 := a16
  obtain ⟨hin, h1, h2⟩ := cx.in hl
  obtain ⟨hS, hK, hpc⟩ := sk8 (E := E) (c := 1) (kd := 0) (by omega) (by omega)
  obtain ⟨A6, A7, A3, A4⟩ := aa1 hpc
  have F6 : ¬ _ := (fun h => by have h := A6.1 h; cases hb : E.b 3 <;> simp only [hb, Bool.false_eq_true, false_and, or_false, true_and, ne_eq] at h a3 a4 <;> omega)
  have F7 : ¬ _ := (fun h => by have h := A7.1 h; omega)
  have F3 : ¬ _ := (fun h => by have h := A3.1 h; omega)
  have F4 : ¬ _ := (fun h => by have h := A4.1 h; omega)
  have hst : stp 1 (fE E) (inpE E) = _ := stp0d hK F6 F7 F3
  (try rw [hpc] at hst)
  exact go8s (.i (.c 0) (.i (.c 0) (.b (.c false) (.b (.c false) (.i (.v 203) (.i (.v 204) (.i (.v 4) (.i (.v 5) .nil)))))))) cx hl hst hS (fun _ => (by (cases E; cases cx.hE; simp only [comeC, ← imx_max]; rfl))) (fun _ => (by (show (⟨(p3e73 : SE).den E, ((.v 202) : SE).den E, ((.v 203) : SE).den E, ((.v 204) : SE).den E, ((.v 205) : SE).den E, (p3e72 : SE).den E, (p3e71 : SE).den E, ((.v 208) : SE).den E, ((.v 209) : SE).den E, ((.v 210) : SE).den E, b2i (((.not (.and (.not (.v 3)) (.eq p3e5 (.c 0)))) : SB).den E), 0⟩ : P1) = _; (simp only [comeP, pE, inpE, Nat.reduceMul, Nat.reduceAdd, not_d, and_d, eq_d, d_c, d_v, d_ap, d_sli, d_slnil, d_bv, d_add, d_sub, d_mul, d_mx, d_rd, d_av, p3e3, p3e4, p3e5, p3e6, p3e7, p3e11, p3e12, p3e70, p3e71, p3e72, p3e73, cx.hE, f9, f10, imx_max, fin_or2]; rfl)))) (fun _ => (ne3b rfl rfl)) (code_0 hK F6 F7 F3 F4).symm (num_c hK) (is_c hK) (also_c hK)
theorem w3_35 (cx : Cx 3 E0 E k) : Gl 3 E0 E p3x35 := by
  intro hf
  simp only [facts_cons, p3f26, p3f21, p3f4, p3f3, p3f2, p3f1, p3f0] at hf
  obtain ⟨a0, a1, a2, a3, a4, a5, a6, a7, a8, a9, a10, a11, a12, a13, a14, _⟩ := hf
  simp only [le_t, le_f, lt_t, eq_t, eq_f, d_c, d_v, d_add, d_mul, d_rd, d_av, p3e3, p3e6, p3e7, p3e8, p3e9, p3e10, p3e11, p3e12, p3e24, p3e25] at a0 a1 a2 a3 a4 a5 a6 a7 a8 a9 a10 a11 a12 a13 a14
  have hl : E.i 20 < E.i 0 := a14
  obtain ⟨hin, h1, h2⟩ := cx.in hl
  obtain ⟨hS, hK, hpc⟩ := sk8 (E := E) (c := 1) (kd := 1) (by omega) (by omega)
  have hst : stp 1 (fE E) (inpE E) = _ := stp1 hK
  (try rw [hpc] at hst)
  refine go8s (.i (.c 0) (.i (.c 0) (.b (.and (.not (.v 3)) (.le p3e82 p3e84)) (.b (.le p3e31 p3e33) (.i (.v 203) (.i (.v 204) (.i (.v 4) (.i (.v 5) .nil)))))))) cx hl hst hS (fun _ => (by rfl)) (fun _ => (by rfl)) (fun _ => (ne3b rfl rfl)) (code_c hK) (num_c hK) ?_ ?_
  · show b2i (((.and (.not (.v 3)) (.le p3e82 p3e84)) : SB).den E) = _
    rw [b2i_iff, is_1 hK]
    (try rw [hpc])
    simp only [pE, inpE, Nat.reduceMul, Nat.reduceAdd, d_c, d_v, d_bv, d_add, d_sub, d_mul, d_tdiv, d_rd, d_av, p3e3, p3e24, p3e25, p3e81, p3e82, p3e83, p3e84, and_t, not_t, le_t, b2i_z, duE]
    (try (rw [tdn (by have g := (good8 cx.hI cx.hsc).2.1 1 (by omega); simp only [okP, fE, pE, Nat.reduceMul, Nat.reduceAdd] at g; omega)]))
  · show b2i (((.le p3e31 p3e33) : SB).den E) = _
    rw [b2i_iff, also_1 hK]
    simp only [fE, cE, inpE, d_c, d_v, d_add, d_sub, d_mul, d_tdiv, d_rd, d_av, p3e3, p3e24, p3e25, p3e27, p3e31, p3e32, p3e33, le_t, duE]
    (try (rw [tdn (by have g := (good8 cx.hI cx.hsc).1; simp only [okP, fE, cE] at g; omega)]))
theorem w3_36 (cx : Cx 3 E0 E k) : Gl 3 E0 E p3x36 := by
  intro hf
  simp only [facts_cons, p3f26, p3f21, p3f4, p3f3, p3f2, p3f1, p3f0] at hf
  obtain ⟨a0, a1, a2, a3, a4, a5, a6, a7, a8, a9, a10, a11, a12, a13, a14, _⟩ := hf
  simp only [le_t, le_f, lt_t, eq_t, eq_f, d_c, d_v, d_add, d_mul, d_rd, d_av, p3e3, p3e6, p3e7, p3e8, p3e9, p3e10, p3e11, p3e12, p3e24, p3e25] at a0 a1 a2 a3 a4 a5 a6 a7 a8 a9 a10 a11 a12 a13 a14
  have hl : E.i 20 < E.i 0 := a14
  obtain ⟨hin, h1, h2⟩ := cx.in hl
  have hS : (E.a 0 (E.i 20 * 6 + 1).toNat).toNat = 1 := by omega
  have hK : E.a 0 (E.i 20 * 6).toNat = 1 := by omega
  simp only [okIn, inpE, hS, fE, pE, cE, Nat.reduceMul, Nat.reduceAdd] at hin
  omega
theorem w3_37 (cx : Cx 3 E0 E k) : Gl 3 E0 E p3x37 := by
  intro hf
  simp only [facts_cons, p3f26, p3f21, p3f4, p3f3, p3f2, p3f1, p3f0] at hf
  obtain ⟨a0, a1, a2, a3, a4, a5, a6, a7, a8, a9, a10, a11, a12, a13, _⟩ := hf
  simp only [le_t, le_f, lt_t, eq_t, eq_f, d_c, d_v, d_add, d_mul, d_rd, d_av, p3e3, p3e6, p3e7, p3e8, p3e9, p3e10, p3e11, p3e12, p3e24, p3e25] at a0 a1 a2 a3 a4 a5 a6 a7 a8 a9 a10 a11 a12 a13
  have hl : E.i 20 < E.i 0 := a13
  obtain ⟨hin, h1, h2⟩ := cx.in hl
  have hS : (E.a 0 (E.i 20 * 6 + 1).toNat).toNat = 1 := by omega
  have hK : E.a 0 (E.i 20 * 6).toNat = 1 := by omega
  simp only [okIn, inpE, hS, fE, pE, cE, Nat.reduceMul, Nat.reduceAdd] at hin
  omega
theorem w3_38 (cx : Cx 3 E0 E k) : Gl 3 E0 E p3x38 := by
  intro hf
  simp only [facts_cons, p3f27, p3f21, p3f4, p3f3, p3f2, p3f1, p3f0] at hf
  obtain ⟨a0, a1, a2, a3, a4, a5, a6, a7, a8, a9, a10, a11, a12, a13, a14, _⟩ := hf
  simp only [le_t, le_f, lt_t, eq_t, eq_f, d_c, d_v, d_add, d_mul, d_rd, d_av, p3e3, p3e6, p3e7, p3e8, p3e9, p3e10, p3e11, p3e12] at a0 a1 a2 a3 a4 a5 a6 a7 a8 a9 a10 a11 a12 a13 a14
  have hl : E.i 20 < E.i 0 := a14
  obtain ⟨hin, h1, h2⟩ := cx.in hl
  obtain ⟨hS, hK, hpc⟩ := sk8 (E := E) (c := 1) (kd := 2) (by omega) (by omega)
  have hst : stp 1 (fE E) (inpE E) = _ := stp2 hK
  (try rw [hpc] at hst)
  exact go8s (.i (.c 0) (.i (.c 0) (.b (.c false) (.b (.c false) (.i (.v 203) (.i (.v 204) (.i (.v 4) (.i (.v 5) .nil)))))))) cx hl hst hS (fun _ => (by rfl)) (fun _ => (by rfl)) (fun _ => (ne3b rfl rfl)) (code_c hK) (num_c hK) (is_c hK) (also_c hK)
theorem w3_39 (cx : Cx 3 E0 E k) : Gl 3 E0 E p3x39 := by
  intro hf
  simp only [facts_cons, p3f27, p3f21, p3f4, p3f3, p3f2, p3f1, p3f0] at hf
  obtain ⟨a0, a1, a2, a3, a4, a5, a6, a7, a8, a9, a10, a11, a12, a13, a14, _⟩ := hf
  simp only [le_t, le_f, lt_t, eq_t, eq_f, d_c, d_v, d_add, d_mul, d_rd, d_av, p3e3, p3e6, p3e7, p3e8, p3e9, p3e10, p3e11, p3e12] at a0 a1 a2 a3 a4 a5 a6 a7 a8 a9 a10 a11 a12 a13 a14
  have hl : E.i 20 < E.i 0 := a14
  obtain ⟨hin, h1, h2⟩ := cx.in hl
  have hS : (E.a 0 (E.i 20 * 6 + 1).toNat).toNat = 1 := by omega
  have hK : E.a 0 (E.i 20 * 6).toNat = 2 := by omega
  simp only [okIn, inpE, hS, fE, pE, cE, Nat.reduceMul, Nat.reduceAdd] at hin
  omega
theorem w3_40 (cx : Cx 3 E0 E k) : Gl 3 E0 E p3x40 := by
  intro hf
  simp only [facts_cons, p3f28, p3f27, p3f21, p3f4, p3f3, p3f2, p3f1, p3f0] at hf
  obtain ⟨a0, a1, a2, a3, a4, a5, a6, a7, a8, a9, a10, a11, a12, a13, a14, a15, _⟩ := hf
  simp only [le_t, le_f, lt_t, eq_t, eq_f, d_c, d_v, d_bv, d_add, d_mul, d_rd, d_av, p3e3, p3e6, p3e7, p3e8, p3e9, p3e10, p3e11, p3e12] at a0 a1 a2 a3 a4 a5 a6 a7 a8 a9 a10 a11 a12 a13 a14 a15
  have hl : E.i 20 < E.i 0 := a15
  obtain ⟨hin, h1, h2⟩ := cx.in hl
  obtain ⟨hS, hK, hpc⟩ := sk8 (E := E) (c := 1) (kd := 3) (by omega) (by omega)
  have T6 : ((fE E).p (inpE E).S.toNat).fin ≠ 0 := by rw [hpc]; exact b2i_ne.2 a0
  have hst : stp 1 (fE E) (inpE E) = _ := stp3a hK T6
  (try rw [hpc] at hst)
  refine go8n (.i (.c 0) (.i (.c 0) (.b (.c false) (.b (.c false) (.i (.v 203) (.i (.v 204) (.i (.v 4) (.i (.v 5) .nil)))))))) cx hl hst hS (fun _ => rfl) (fun _ => (al3 rfl rfl rfl)) (code_c hK) ?_ (is_c hK) (also_c hK)
  · rw [num_3a hK T6]; rfl
theorem w3_41 (cx : Cx 3 E0 E k) : Gl 3 E0 E p3x41 := by
  intro hf
  simp only [facts_cons, p3f28, p3f27, p3f21, p3f4, p3f3, p3f2, p3f1, p3f0] at hf
  obtain ⟨a0, a1, a2, a3, a4, a5, a6, a7, a8, a9, a10, a11, a12, a13, a14, a15, _⟩ := hf
  simp only [le_t, le_f, lt_t, eq_t, eq_f, d_c, d_v, d_bv, d_add, d_mul, d_rd, d_av, p3e3, p3e6, p3e7, p3e8, p3e9, p3e10, p3e11, p3e12] at a0 a1 a2 a3 a4 a5 a6 a7 a8 a9 a10 a11 a12 a13 a14 a15
  have hl : E.i 20 < E.i 0 := a15
  obtain ⟨hin, h1, h2⟩ := cx.in hl
  obtain ⟨hS, hK, hpc⟩ := sk8 (E := E) (c := 1) (kd := 3) (by omega) (by omega)
  have T6 : ((fE E).p (inpE E).S.toNat).fin = 0 := by rw [hpc]; exact b2i_z.2 a0
  have hst : stp 1 (fE E) (inpE E) = _ := stp3b hK T6
  (try rw [hpc] at hst)
  refine go8s (.i (.c 0) (.i p3e95 (.b (.c false) (.b (.c false) (.i p3e91 (.i p3e90 (.i (.v 4) (.i p3e94 .nil)))))))) cx hl hst hS (fun _ => (by (cases E; cases cx.hE; rfl))) (fun _ => (by (cases E; cases cx.hE; rfl))) (fun _ => (ne3b rfl rfl)) (code_c hK) ?_ (is_c hK) (also_c hK) (by (cases E; cases cx.hE; rfl)) (by (cases E; cases cx.hE; rfl)) (by rfl) (by (cases E; cases cx.hE; rfl))
  · rw [num_3b hK T6]; (rw [hpc]; cases E; cases cx.hE; rfl)
theorem w3_42 (cx : Cx 3 E0 E k) : Gl 3 E0 E p3x42 := by
  intro hf
  simp only [facts_cons, p3f29, p3f27, p3f21, p3f4, p3f3, p3f2, p3f1, p3f0] at hf
  obtain ⟨a0, a1, a2, a3, a4, a5, a6, a7, a8, a9, a10, a11, a12, a13, a14, a15, _⟩ := hf
  simp only [le_t, le_f, lt_t, eq_t, eq_f, d_c, d_v, d_add, d_mul, d_rd, d_av, p3e3, p3e6, p3e7, p3e8, p3e9, p3e10, p3e11, p3e12] at a0 a1 a2 a3 a4 a5 a6 a7 a8 a9 a10 a11 a12 a13 a14 a15
  have hl : E.i 20 < E.i 0 := a15
  obtain ⟨hin, h1, h2⟩ := cx.in hl
  obtain ⟨hS, hK, hpc⟩ := sk8 (E := E) (c := 1) (kd := 4) (by omega) (by omega)
  have hst : stp 1 (fE E) (inpE E) = _ := stp4 hK
  (try rw [hpc] at hst)
  refine go8n (.i (.c 0) (.i p3e50 (.b (.c false) (.b (.c false) (.i (.v 203) (.i (.v 204) (.i p3e49 (.i p3e48 .nil)))))))) cx hl hst hS (fun _ => (by (cases E; cases cx.hE; rfl))) (fun _ => (al3 rfl rfl rfl)) (code_c hK) ?_ (is_c hK) (also_c hK) (by rfl) (by rfl) (by (cases E; cases cx.hE; rfl)) (by (cases E; cases cx.hE; rfl))
  · rw [num_4 hK]; (cases E; cases cx.hE; rfl)
theorem w3_43 (cx : Cx 3 E0 E k) : Gl 3 E0 E p3x43 := by
  intro hf
  simp only [facts_cons, p3f29, p3f27, p3f21, p3f4, p3f3, p3f2, p3f1, p3f0] at hf
  obtain ⟨a0, a1, a2, a3, a4, a5, a6, a7, a8, a9, a10, a11, a12, a13, a14, a15, a16, _⟩ := hf
  simp only [le_t, le_f, lt_t, eq_t, eq_f, d_c, d_v, d_add, d_mul, d_rd, d_av, p3e3, p3e6, p3e7, p3e8, p3e9, p3e10, p3e11, p3e12] at a0 a1 a2 a3 a4 a5 a6 a7 a8 a9 a10 a11 a12 a13 a14 a15 a16
  have hl : E.i 20 < E.i 0 := a16
  obtain ⟨hin, h1, h2⟩ := cx.in hl
  obtain ⟨hS, hK, hpc⟩ := sk8 (E := E) (c := 1) (kd := 5) (by omega) (by omega)
  have hst : stp 1 (fE E) (inpE E) = _ := stp5 hK
  (try rw [hpc] at hst)
  refine go8s (.i (.c 0) (.i (.c 0) (.b (.lt (.v 209) p3e25) (.b (.c false) (.i (.v 203) (.i (.v 204) (.i (.v 4) (.i (.v 5) .nil)))))))) cx hl hst hS (fun _ => rfl) (fun _ => (by (simp only [← imx_max]; rfl))) (fun _ => (ne3b rfl rfl)) (code_c hK) (num_c hK) ?_ (also_c hK)
  · show b2i (((.lt (.v 209) p3e25) : SB).den E) = _
    rw [b2i_iff, is_5 hK]
    (try rw [hpc])
    simp only [pE, inpE, Nat.reduceMul, Nat.reduceAdd, d_c, d_v, d_add, d_mul, d_rd, d_av, p3e3, p3e24, p3e25, lt_t]
    (try done)
theorem w3_44 (cx : Cx 3 E0 E k) : Gl 3 E0 E p3x44 := by
  intro hf
  simp only [facts_cons, p3f30, p3f29, p3f27, p3f21, p3f4, p3f3, p3f2, p3f1, p3f0] at hf
  obtain ⟨a0, a1, a2, a3, a4, a5, a6, a7, a8, a9, a10, a11, a12, a13, a14, a15, a16, a17, _⟩ := hf
  simp only [le_t, le_f, lt_t, eq_t, eq_f, d_c, d_v, d_add, d_mul, d_rd, d_av, p3e3, p3e6, p3e7, p3e8, p3e9, p3e10, p3e11, p3e12] at a0 a1 a2 a3 a4 a5 a6 a7 a8 a9 a10 a11 a12 a13 a14 a15 a16 a17
  have hl : E.i 20 < E.i 0 := a17
  obtain ⟨hin, h1, h2⟩ := cx.in hl
  obtain ⟨hS, hK, hpc⟩ := sk8 (E := E) (c := 1) (kd := 6) (by omega) (by omega)
  have hst : stp 1 (fE E) (inpE E) = _ := stp6 hK
  (try rw [hpc] at hst)
  refine go8n (.i (.c 0) (.i (.c 0) (.b (.lt (.v 10) p3e25) (.b (.c false) (.i (.v 203) (.i (.v 204) (.i (.v 4) (.i (.v 5) .nil)))))))) cx hl hst hS (fun _ => (by (simp only [← imx_max]; rfl))) (fun _ => (al3 rfl rfl rfl)) (code_c hK) (num_c hK) ?_ (also_c hK)
  · show b2i (((.lt (.v 10) p3e25) : SB).den E) = _
    rw [b2i_iff, is_6 hK]
    (try rw [hpc])
    simp only [fE, cE, inpE, d_c, d_v, d_add, d_mul, d_rd, d_av, p3e3, p3e24, p3e25, lt_t]
    (try done)
theorem w3_45 (cx : Cx 3 E0 E k) : Gl 3 E0 E p3x45 := by
  intro hf
  simp only [facts_cons, p3f32, p3f31, p3f30, p3f29, p3f27, p3f21, p3f4, p3f3, p3f2, p3f1, p3f0] at hf
  obtain ⟨a0, a1, a2, a3, a4, a5, a6, a7, a8, a9, a10, a11, a12, a13, a14, a15, a16, a17, a18, a19, a20, a21, a22, _⟩ := hf
  simp only [le_t, le_f, lt_t, eq_t, eq_f, d_c, d_v, d_add, d_mul, d_rd, d_av, p3e3, p3e6, p3e7, p3e8, p3e9, p3e10, p3e11, p3e12, p3e24, p3e25, p3e57, p3e101] at a0 a1 a2 a3 a4 a5 a6 a7 a8 a9 a10 a11 a12 a13 a14 a15 a16 a17 a18 a19 a20 a21 a22
  have hl : E.i 20 < E.i 0 := a22
  obtain ⟨hin, h1, h2⟩ := cx.in hl
  obtain ⟨hS, hK, hpc⟩ := sk8 (E := E) (c := 1) (kd := 7) (by omega) (by omega)
  have hst : stp 1 (fE E) (inpE E) = _ := stp7 hK
  (try rw [hpc] at hst)
  exact go8s (.i (.c 0) (.i (.c 0) (.b (.c true) (.b (.c false) (.i (.v 203) (.i (.v 204) (.i (.v 4) (.i (.v 5) .nil)))))))) cx hl hst hS (fun _ => (by rfl)) (fun _ => (by rfl)) (fun _ => (ne3b rfl rfl)) (code_c hK) (num_c hK) (by rw [if_pos (is_7 hK)]; rfl) (also_c hK)
theorem w3_46 (cx : Cx 3 E0 E k) : Gl 3 E0 E p3x46 := by
  intro hf
  simp only [facts_cons, p3f32, p3f31, p3f30, p3f29, p3f27, p3f21, p3f4, p3f3, p3f2, p3f1, p3f0] at hf
  obtain ⟨a0, a1, a2, a3, a4, a5, a6, a7, a8, a9, a10, a11, a12, a13, a14, a15, a16, a17, a18, a19, a20, a21, a22, _⟩ := hf
  simp only [le_t, le_f, lt_t, eq_t, eq_f, d_c, d_v, d_add, d_mul, d_rd, d_av, p3e3, p3e6, p3e7, p3e8, p3e9, p3e10, p3e11, p3e12, p3e24, p3e25, p3e57, p3e101] at a0 a1 a2 a3 a4 a5 a6 a7 a8 a9 a10 a11 a12 a13 a14 a15 a16 a17 a18 a19 a20 a21 a22
  have hl : E.i 20 < E.i 0 := a22
  obtain ⟨hin, h1, h2⟩ := cx.in hl
  have hS : (E.a 0 (E.i 20 * 6 + 1).toNat).toNat = 1 := by omega
  have hK : E.a 0 (E.i 20 * 6).toNat = 7 := by omega
  simp only [okIn, inpE, hS, fE, pE, cE, Nat.reduceMul, Nat.reduceAdd] at hin
  omega
theorem w3_47 (cx : Cx 3 E0 E k) : Gl 3 E0 E p3x47 := by
  intro hf
  simp only [facts_cons, p3f32, p3f31, p3f30, p3f29, p3f27, p3f21, p3f4, p3f3, p3f2, p3f1, p3f0] at hf
  obtain ⟨a0, a1, a2, a3, a4, a5, a6, a7, a8, a9, a10, a11, a12, a13, a14, a15, a16, a17, a18, a19, a20, a21, _⟩ := hf
  simp only [le_t, le_f, lt_t, eq_t, eq_f, d_c, d_v, d_add, d_mul, d_rd, d_av, p3e3, p3e6, p3e7, p3e8, p3e9, p3e10, p3e11, p3e12, p3e24, p3e25, p3e101] at a0 a1 a2 a3 a4 a5 a6 a7 a8 a9 a10 a11 a12 a13 a14 a15 a16 a17 a18 a19 a20 a21
  have hl : E.i 20 < E.i 0 := a21
  obtain ⟨hin, h1, h2⟩ := cx.in hl
  have hS : (E.a 0 (E.i 20 * 6 + 1).toNat).toNat = 1 := by omega
  have hK : E.a 0 (E.i 20 * 6).toNat = 7 := by omega
  simp only [okIn, inpE, hS, fE, pE, cE, Nat.reduceMul, Nat.reduceAdd] at hin
  omega
theorem w3_48 (cx : Cx 3 E0 E k) : Gl 3 E0 E p3x48 := by
  intro hf
  simp only [facts_cons, p3f31, p3f30, p3f29, p3f27, p3f21, p3f4, p3f3, p3f2, p3f1, p3f0] at hf
  obtain ⟨a0, a1, a2, a3, a4, a5, a6, a7, a8, a9, a10, a11, a12, a13, a14, a15, a16, a17, a18, a19, a20, _⟩ := hf
  simp only [le_t, le_f, lt_t, eq_t, eq_f, d_c, d_v, d_add, d_mul, d_rd, d_av, p3e3, p3e6, p3e7, p3e8, p3e9, p3e10, p3e11, p3e12, p3e24, p3e25] at a0 a1 a2 a3 a4 a5 a6 a7 a8 a9 a10 a11 a12 a13 a14 a15 a16 a17 a18 a19 a20
  have hl : E.i 20 < E.i 0 := a20
  obtain ⟨hin, h1, h2⟩ := cx.in hl
  have hS : (E.a 0 (E.i 20 * 6 + 1).toNat).toNat = 1 := by omega
  have hK : E.a 0 (E.i 20 * 6).toNat = 7 := by omega
  simp only [okIn, inpE, hS, fE, pE, cE, Nat.reduceMul, Nat.reduceAdd] at hin
  omega
theorem w3_49 (cx : Cx 3 E0 E k) : Gl 3 E0 E p3x49 := by
  intro hf
  simp only [facts_cons, p3f31, p3f30, p3f29, p3f27, p3f21, p3f4, p3f3, p3f2, p3f1, p3f0] at hf
  obtain ⟨a0, a1, a2, a3, a4, a5, a6, a7, a8, a9, a10, a11, a12, a13, a14, a15, a16, a17, a18, a19, _⟩ := hf
  simp only [le_t, le_f, lt_t, eq_t, eq_f, d_c, d_v, d_add, d_mul, d_rd, d_av, p3e3, p3e6, p3e7, p3e8, p3e9, p3e10, p3e11, p3e12, p3e24, p3e25] at a0 a1 a2 a3 a4 a5 a6 a7 a8 a9 a10 a11 a12 a13 a14 a15 a16 a17 a18 a19
  have hl : E.i 20 < E.i 0 := a19
  obtain ⟨hin, h1, h2⟩ := cx.in hl
  have hS : (E.a 0 (E.i 20 * 6 + 1).toNat).toNat = 1 := by omega
  have hK : E.a 0 (E.i 20 * 6).toNat = 7 := by omega
  simp only [okIn, inpE, hS, fE, pE, cE, Nat.reduceMul, Nat.reduceAdd] at hin
  omega
theorem w3_50 (cx : Cx 3 E0 E k) : Gl 3 E0 E p3x50 := by
  intro hf
  simp only [facts_cons, p3f33, p3f30, p3f29, p3f27, p3f21, p3f4, p3f3, p3f2, p3f1, p3f0] at hf
  obtain ⟨a0, a1, a2, a3, a4, a5, a6, a7, a8, a9, a10, a11, a12, a13, a14, a15, a16, a17, a18, a19, _⟩ := hf
  simp only [le_t, le_f, lt_t, eq_t, eq_f, d_c, d_v, d_add, d_mul, d_rd, d_av, p3e3, p3e6, p3e7, p3e8, p3e9, p3e10, p3e11, p3e12] at a0 a1 a2 a3 a4 a5 a6 a7 a8 a9 a10 a11 a12 a13 a14 a15 a16 a17 a18 a19
  have hl : E.i 20 < E.i 0 := a19
  obtain ⟨hin, h1, h2⟩ := cx.in hl
  obtain ⟨hS, hK, hpc⟩ := sk8 (E := E) (c := 1) (kd := 8) (by omega) (by omega)
  have hst : stp 1 (fE E) (inpE E) = _ := stp8 hK
  (try rw [hpc] at hst)
  refine go8n (.i (.c 0) (.i p3e104 (.b (.c false) (.b (.c false) (.i (.v 203) (.i (.v 204) (.i (.v 4) (.i (.v 5) .nil)))))))) cx hl hst hS (fun _ => rfl) (fun _ => (al3 rfl rfl rfl)) (code_c hK) ?_ (is_c hK) (also_c hK)
  · rw [num_8 hK]; (show (p3e104 : SE).den E = _; rw [hpc]; (simp only [fE, cE, pE, Nat.reduceMul, Nat.reduceAdd, d_v, d_sub, d_mn, p3e60, p3e103, p3e104, imn_min]; done))
theorem w3_51 (cx : Cx 3 E0 E k) : Gl 3 E0 E p3x51 := by
  intro hf
  simp only [facts_cons, p3f33, p3f30, p3f29, p3f27, p3f21, p3f4, p3f3, p3f2, p3f1, p3f0] at hf
  obtain ⟨a0, a1, a2, a3, a4, a5, a6, a7, a8, a9, a10, a11, a12, a13, a14, a15, a16, a17, a18, a19, a20, _⟩ := hf
  simp only [le_t, le_f, lt_t, eq_t, eq_f, d_c, d_v, d_add, d_mul, d_rd, d_av, p3e3, p3e6, p3e7, p3e8, p3e9, p3e10, p3e11, p3e12] at a0 a1 a2 a3 a4 a5 a6 a7 a8 a9 a10 a11 a12 a13 a14 a15 a16 a17 a18 a19 a20
  have hl : E.i 20 < E.i 0 := a20
  obtain ⟨hin, h1, h2⟩ := cx.in hl
  obtain ⟨hS, hK, hpc⟩ := sk8 (E := E) (c := 1) (kd := 9) (by omega) (by omega)
  have hst : stp 1 (fE E) (inpE E) = _ := stp9 hK
  (try rw [hpc] at hst)
  refine go8s (.i (.c 0) (.i (.c 0) (.b (.and (.not (.lt (.v 208) (.v 209))) (.not (.eq (.v 209) (.v 210)))) (.b (.c false) (.i (.v 203) (.i (.v 204) (.i (.v 4) (.i (.v 5) .nil)))))))) cx hl hst hS (fun _ => rfl) (fun _ => (by (show (⟨((.v 201) : SE).den E, ((.v 202) : SE).den E, ((.v 203) : SE).den E, ((.v 204) : SE).den E, ((.v 205) : SE).den E, ((.v 206) : SE).den E, ((.v 207) : SE).den E, ((.v 208) : SE).den E, ((.v 209) : SE).den E, (p3e106 : SE).den E, b2i (((.v 3) : SB).den E), 0⟩ : P1) = _; (simp only [blkP, pE, Nat.reduceMul, Nat.reduceAdd, d_v, d_bv, d_ite, p3e106, ite_lt]; rfl)))) (fun _ => (ne3b rfl rfl)) (code_c hK) (num_c hK) ?_ (also_c hK)
  · show b2i (((.and (.not (.lt (.v 208) (.v 209))) (.not (.eq (.v 209) (.v 210)))) : SB).den E) = _
    rw [b2i_iff, is_9 hK]
    (try rw [hpc])
    simp only [newB, pE, Nat.reduceMul, Nat.reduceAdd, Int.not_lt, d_v, and_t, not_t, lt_f, eq_f, ne_eq]
    (try done)
theorem w3_52 (cx : Cx 3 E0 E k) : Gl 3 E0 E p3x52 := by
  intro hf
  simp only [facts_cons, p3f34, p3f33, p3f30, p3f29, p3f27, p3f21, p3f4, p3f3, p3f2, p3f1, p3f0] at hf
  obtain ⟨a0, a1, a2, a3, a4, a5, a6, a7, a8, a9, a10, a11, a12, a13, a14, a15, a16, a17, a18, a19, a20, a21, _⟩ := hf
  simp only [le_t, le_f, lt_t, eq_t, eq_f, d_c, d_v, d_add, d_mul, d_rd, d_av, p3e3, p3e6, p3e7, p3e8, p3e9, p3e10, p3e11, p3e12] at a0 a1 a2 a3 a4 a5 a6 a7 a8 a9 a10 a11 a12 a13 a14 a15 a16 a17 a18 a19 a20 a21
  have hl : E.i 20 < E.i 0 := a21
  obtain ⟨hin, h1, h2⟩ := cx.in hl
  obtain ⟨hS, hK, hpc⟩ := sk8 (E := E) (c := 1) (kd := 10) (by omega) (by omega)
  have hst : stp 1 (fE E) (inpE E) = _ := stp10 hK
  (try rw [hpc] at hst)
  refine go8n (.i (.c 0) (.i p3e66 (.b (.and (.not (.lt (.v 9) (.v 10))) (.not (.eq (.v 10) (.v 11)))) (.b (.c false) (.i (.v 203) (.i (.v 204) (.i (.v 4) (.i (.v 5) .nil)))))))) cx hl hst hS (fun _ => (by (show (⟨((.v 2) : SE).den E, ((.v 3) : SE).den E, ((.v 4) : SE).den E, ((.v 5) : SE).den E, ((.v 6) : SE).den E, ((.v 7) : SE).den E, ((.v 8) : SE).den E, ((.v 9) : SE).den E, ((.v 10) : SE).den E, (p3e65 : SE).den E, 0, 0⟩ : P1) = _; (simp only [blkP, fE, cE, d_v, d_ite, p3e65, ite_lt]; rfl)))) (fun _ => (al3 rfl rfl rfl)) (code_c hK) ?_ ?_ (also_c hK)
  · rw [num_10 hK]; (show (p3e66 : SE).den E = _; simp only [newB, fE, cE, Int.not_lt, d_c, d_v, d_ite, p3e66, and_t, not_t, lt_f, eq_f, ne_eq]; done)
  · show b2i (((.and (.not (.lt (.v 9) (.v 10))) (.not (.eq (.v 10) (.v 11)))) : SB).den E) = _
    rw [b2i_iff, is_10 hK]
    (try rw [hpc])
    simp only [newB, fE, cE, Int.not_lt, d_v, and_t, not_t, lt_f, eq_f, ne_eq]
    (try done)
theorem w3_53 (cx : Cx 3 E0 E k) : Gl 3 E0 E p3x53 := by
  intro hf
  simp only [facts_cons, p3f36, p3f35, p3f34, p3f33, p3f30, p3f29, p3f27, p3f21, p3f4, p3f3, p3f2, p3f1, p3f0] at hf
  obtain ⟨a0, a1, a2, a3, a4, a5, a6, a7, a8, a9, a10, a11, a12, a13, a14, a15, a16, a17, a18, a19, a20, a21, a22, a23, a24, a25, _⟩ := hf
  simp only [le_t, le_f, lt_t, eq_t, eq_f, d_c, d_v, d_bv, d_add, d_mul, d_rd, d_av, p3e3, p3e6, p3e7, p3e8, p3e9, p3e10, p3e11, p3e12, p3e24, p3e25] at a0 a1 a2 a3 a4 a5 a6 a7 a8 a9 a10 a11 a12 a13 a14 a15 a16 a17 a18 a19 a20 a21 a22 a23 a24 a25
  have hl : E.i 20 < E.i 0 := a25
  obtain ⟨hin, h1, h2⟩ := cx.in hl
  have hS : (E.a 0 (E.i 20 * 6 + 1).toNat).toNat = 1 := by omega
  have hK : E.a 0 (E.i 20 * 6).toNat = 11 := by omega
  simp only [okIn, inpE, hS, fE, pE, cE, Nat.reduceMul, Nat.reduceAdd] at hin
  (cases hb : E.b 1 <;> simp only [hb, b2i, Bool.false_eq_true, ↓reduceIte] at a0 hin <;> omega)
theorem w3_54 (cx : Cx 3 E0 E k) : Gl 3 E0 E p3x54 := by
  intro hf
  simp only [facts_cons, p3f36, p3f35, p3f34, p3f33, p3f30, p3f29, p3f27, p3f21, p3f4, p3f3, p3f2, p3f1, p3f0] at hf
  obtain ⟨a0, a1, a2, a3, a4, a5, a6, a7, a8, a9, a10, a11, a12, a13, a14, a15, a16, a17, a18, a19, a20, a21, a22, a23, a24, a25, _⟩ := hf
  simp only [le_t, le_f, lt_t, eq_t, eq_f, d_c, d_v, d_bv, d_add, d_mul, d_rd, d_av, p3e3, p3e6, p3e7, p3e8, p3e9, p3e10, p3e11, p3e12, p3e24, p3e25] at a0 a1 a2 a3 a4 a5 a6 a7 a8 a9 a10 a11 a12 a13 a14 a15 a16 a17 a18 a19 a20 a21 a22 a23 a24 a25
  have hl : E.i 20 < E.i 0 := a25
  obtain ⟨hin, h1, h2⟩ := cx.in hl
  obtain ⟨hS, hK, hpc⟩ := sk8 (E := E) (c := 1) (kd := 11) (by omega) (by omega)
  have hst : stp 1 (fE E) (inpE E) = _ := stp11 hK
  (try rw [hpc] at hst)
  exact go8n (.i (.c 0) (.i (.c 0) (.b (.c false) (.b (.c false) (.i (.v 203) (.i (.v 204) (.i (.v 4) (.i (.v 5) .nil)))))))) cx hl hst hS (fun _ => rfl) (fun _ => (al3 rfl rfl rfl)) (code_c hK) (num_c hK) (is_c hK) (also_c hK)
theorem w3_55 (cx : Cx 3 E0 E k) : Gl 3 E0 E p3x55 := by
  intro hf
  simp only [facts_cons, p3f35, p3f34, p3f33, p3f30, p3f29, p3f27, p3f21, p3f4, p3f3, p3f2, p3f1, p3f0] at hf
  obtain ⟨a0, a1, a2, a3, a4, a5, a6, a7, a8, a9, a10, a11, a12, a13, a14, a15, a16, a17, a18, a19, a20, a21, a22, a23, a24, _⟩ := hf
  simp only [le_t, le_f, lt_t, eq_t, eq_f, d_c, d_v, d_add, d_mul, d_rd, d_av, p3e3, p3e6, p3e7, p3e8, p3e9, p3e10, p3e11, p3e12, p3e24, p3e25] at a0 a1 a2 a3 a4 a5 a6 a7 a8 a9 a10 a11 a12 a13 a14 a15 a16 a17 a18 a19 a20 a21 a22 a23 a24
  have hl : E.i 20 < E.i 0 := a24
  obtain ⟨hin, h1, h2⟩ := cx.in hl
  have hS : (E.a 0 (E.i 20 * 6 + 1).toNat).toNat = 1 := by omega
  have hK : E.a 0 (E.i 20 * 6).toNat = 11 := by omega
  simp only [okIn, inpE, hS, fE, pE, cE, Nat.reduceMul, Nat.reduceAdd] at hin
  omega
theorem w3_56 (cx : Cx 3 E0 E k) : Gl 3 E0 E p3x56 := by
  intro hf
  simp only [facts_cons, p3f35, p3f34, p3f33, p3f30, p3f29, p3f27, p3f21, p3f4, p3f3, p3f2, p3f1, p3f0] at hf
  obtain ⟨a0, a1, a2, a3, a4, a5, a6, a7, a8, a9, a10, a11, a12, a13, a14, a15, a16, a17, a18, a19, a20, a21, a22, a23, _⟩ := hf
  simp only [le_t, le_f, lt_t, eq_t, eq_f, d_c, d_v, d_add, d_mul, d_rd, d_av, p3e3, p3e6, p3e7, p3e8, p3e9, p3e10, p3e11, p3e12, p3e24, p3e25] at a0 a1 a2 a3 a4 a5 a6 a7 a8 a9 a10 a11 a12 a13 a14 a15 a16 a17 a18 a19 a20 a21 a22 a23
  have hl : E.i 20 < E.i 0 := a23
  obtain ⟨hin, h1, h2⟩ := cx.in hl
  have hS : (E.a 0 (E.i 20 * 6 + 1).toNat).toNat = 1 := by omega
  have hK : E.a 0 (E.i 20 * 6).toNat = 11 := by omega
  simp only [okIn, inpE, hS, fE, pE, cE, Nat.reduceMul, Nat.reduceAdd] at hin
  omega
theorem w3_57 (cx : Cx 3 E0 E k) : Gl 3 E0 E p3x57 := by
  intro hf
  simp only [facts_cons, p3f34, p3f33, p3f30, p3f29, p3f27, p3f21, p3f4, p3f3, p3f2, p3f1, p3f0] at hf
  obtain ⟨a0, a1, a2, a3, a4, a5, a6, a7, a8, a9, a10, a11, a12, a13, a14, a15, a16, a17, a18, a19, a20, a21, a22, _⟩ := hf
  simp only [le_t, le_f, lt_t, eq_f, d_c, d_v, d_add, d_mul, d_rd, d_av, p3e3, p3e6, p3e7, p3e8, p3e9, p3e10, p3e11, p3e12] at a0 a1 a2 a3 a4 a5 a6 a7 a8 a9 a10 a11 a12 a13 a14 a15 a16 a17 a18 a19 a20 a21 a22
  have hl : E.i 20 < E.i 0 := a22
  obtain ⟨hin, h1, h2⟩ := cx.in hl
  exfalso; omega
theorem w3_58 (cx : Cx 3 E0 E k) : Gl 3 E0 E p3x58 := by
  intro hf
  simp only [facts_cons, p3f37, p3f4, p3f3, p3f2, p3f1, p3f0] at hf
  obtain ⟨a0, a1, a2, a3, a4, a5, a6, a7, a8, a9, a10, a11, a12, _⟩ := hf
  simp only [and_t, not_t, le_t, le_f, lt_t, eq_t, eq_f, d_c, d_v, d_bv, d_add, d_mul, d_rd, d_av, p3e3, p3e4, p3e5, p3e6, p3e7, p3e8, p3e9, p3e10, p3e11, p3e12] at a0 a1 a2 a3 a4 a5 a6 a7 a8 a9 a10 a11 a12
  have hl : E.i 20 < E.i 0 := a12
  obtain ⟨hin, h1, h2⟩ := cx.in hl
  obtain ⟨hS, hK, hpc⟩ := sk8 (E := E) (c := 2) (kd := 0) (by omega) (by omega)
  obtain ⟨A6, A7, A3, A4⟩ := aa2 hpc
  have T6 := A6.2 (by exact .inl a0)
  have hst : stp 1 (fE E) (inpE E) = _ := stp0a hK T6
  (try rw [hpc] at hst)
  exact go8n (.i (.c 6) (.i (.c 0) (.b (.c false) (.b (.c false) (.i (.v 303) (.i (.v 304) (.i (.v 4) (.i (.v 5) .nil)))))))) cx hl hst hS (fun _ => rfl) (fun _ => (al3 rfl rfl rfl)) (code_6 hK (.inl T6)).symm (num_c hK) (is_c hK) (also_c hK)
theorem w3_59 (cx : Cx 3 E0 E k) : Gl 3 E0 E p3x59 := by
  intro hf
  simp only [facts_cons, p3f38, p3f37, p3f4, p3f3, p3f2, p3f1, p3f0] at hf
  obtain ⟨a0, a1, a2, a3, a4, a5, a6, a7, a8, a9, a10, a11, a12, a13, _⟩ := hf
  simp only [and_t, and_f, not_t, le_t, le_f, lt_t, eq_t, eq_f, d_c, d_v, d_bv, d_add, d_mul, d_rd, d_av, p3e3, p3e4, p3e5, p3e6, p3e7, p3e8, p3e9, p3e10, p3e11, p3e12] at a0 a1 a2 a3 a4 a5 a6 a7 a8 a9 a10 a11 a12 a13
  have hl : E.i 20 < E.i 0 := a13
  obtain ⟨hin, h1, h2⟩ := cx.in hl
  obtain ⟨hS, hK, hpc⟩ := sk8 (E := E) (c := 2) (kd := 0) (by omega) (by omega)
  obtain ⟨A6, A7, A3, A4⟩ := aa2 hpc
  have T6 := A6.2 (by exact .inr a0)
  have hst : stp 1 (fE E) (inpE E) = _ := stp0a hK T6
  (try rw [hpc] at hst)
  exact go8n (.i (.c 6) (.i (.c 0) (.b (.c false) (.b (.c false) (.i (.v 303) (.i (.v 304) (.i (.v 4) (.i (.v 5) .nil)))))))) cx hl hst hS (fun _ => rfl) (fun _ => (al3 rfl rfl rfl)) (code_6 hK (.inl T6)).symm (num_c hK) (is_c hK) (also_c hK)
theorem w3_60 (cx : Cx 3 E0 E k) : Gl 3 E0 E p3x60 := by
  intro hf
  simp only [facts_cons, p3f39, p3f38, p3f37, p3f4, p3f3, p3f2, p3f1, p3f0] at hf
  obtain ⟨a0, a1, a2, a3, a4, a5, a6, a7, a8, a9, a10, a11, a12, a13, a14, _⟩ := hf
  simp only [and_t, and_f, not_t, le_t, le_f, lt_t, eq_t, eq_f, d_c, d_v, d_bv, d_add, d_mul, d_rd, d_av, p3e3, p3e4, p3e5, p3e6, p3e7, p3e8, p3e9, p3e10, p3e11, p3e12] at a0 a1 a2 a3 a4 a5 a6 a7 a8 a9 a10 a11 a12 a13 a14
  have hl : E.i 20 < E.i 0 := a14
  obtain ⟨hin, h1, h2⟩ := cx.in hl
  obtain ⟨hS, hK, hpc⟩ := sk8 (E := E) (c := 2) (kd := 0) (by omega) (by omega)
  obtain ⟨A6, A7, A3, A4⟩ := aa2 hpc
  have F6 : ¬ _ := (fun h => by have h := A6.1 h; cases hb : E.b 4 <;> simp only [hb, Bool.false_eq_true, false_and, or_false, true_and, ne_eq] at h a1 a2 <;> omega)
  have T7 := A7.2 (by exact a0)
  have hst : stp 1 (fE E) (inpE E) = _ := stp0b hK F6 T7
  (try rw [hpc] at hst)
  exact go8s (.i (.c 6) (.i (.c 0) (.b (.c false) (.b (.c false) (.i (.v 303) (.i (.v 304) (.i (.v 4) (.i (.v 5) .nil)))))))) cx hl hst hS (fun _ => rfl) (fun _ => (by rfl)) (fun _ => (ne3c rfl rfl)) (code_6 hK (.inr T7)).symm (num_c hK) (is_c hK) (also_c hK)
theorem w3_61 (cx : Cx 3 E0 E k) : Gl 3 E0 E p3x61 := by
  intro hf
  simp only [facts_cons, p3f40, p3f39, p3f38, p3f37, p3f4, p3f3, p3f2, p3f1, p3f0] at hf
  obtain ⟨a0, a1, a2, a3, a4, a5, a6, a7, a8, a9, a10, a11, a12, a13, a14, a15, _⟩ := hf
  simp only [and_t, and_f, not_t, le_t, le_f, lt_t, eq_t, eq_f, d_c, d_v, d_bv, d_add, d_mul, d_rd, d_av, p3e3, p3e4, p3e5, p3e6, p3e7, p3e8, p3e9, p3e10, p3e11, p3e12] at a0 a1 a2 a3 a4 a5 a6 a7 a8 a9 a10 a11 a12 a13 a14 a15
  have hl : E.i 20 < E.i 0 := a15
  obtain ⟨hin, h1, h2⟩ := cx.in hl
  obtain ⟨hS, hK, hpc⟩ := sk8 (E := E) (c := 2) (kd := 0) (by omega) (by omega)
  obtain ⟨A6, A7, A3, A4⟩ := aa2 hpc
  have F6 : ¬ _ := (fun h => by have h := A6.1 h; cases hb : E.b 4 <;> simp only [hb, Bool.false_eq_true, false_and, or_false, true_and, ne_eq] at h a2 a3 <;> omega)
  have F7 : ¬ _ := (fun h => by have h := A7.1 h; omega)
  have T3 := A3.2 (by exact a0)
  have hst : stp 1 (fE E) (inpE E) = _ := stp0c hK F6 F7 T3
  (try rw [hpc] at hst)
  exact go8s (.i (.c 3) (.i (.c 0) (.b (.c false) (.b (.c false) (.i (.v 303) (.i (.v 304) (.i (.v 4) (.i (.v 5) .nil)))))))) cx hl hst hS (fun _ => rfl) (fun _ => (by (show (⟨(p3e113 : SE).den E, ((.v 302) : SE).den E, ((.v 303) : SE).den E, ((.v 304) : SE).den E, ((.v 305) : SE).den E, (p3e112 : SE).den E, (p3e111 : SE).den E, ((.v 308) : SE).den E, ((.v 309) : SE).den E, ((.v 310) : SE).den E, b2i (((.not (.and (.not (.v 4)) (.eq p3e5 (.c 0)))) : SB).den E), 0⟩ : P1) = _; (simp only [comeP, pE, inpE, Nat.reduceMul, Nat.reduceAdd, not_d, and_d, eq_d, d_c, d_v, d_ap, d_sli, d_slnil, d_bv, d_add, d_sub, d_mul, d_mx, d_rd, d_av, p3e3, p3e4, p3e5, p3e6, p3e7, p3e11, p3e12, p3e110, p3e111, p3e112, p3e113, cx.hE, f9, f10, imx_max, fin_or2]; rfl)))) (fun _ => (ne3c rfl rfl)) (code_3 hK F6 F7 (.inl T3)).symm (num_c hK) (is_c hK) (also_c hK)
theorem w3_62 (cx : Cx 3 E0 E k) : Gl 3 E0 E p3x62 := by
  intro hf
  simp only [facts_cons, p3f41, p3f40, p3f39, p3f38, p3f37, p3f4, p3f3, p3f2, p3f1, p3f0] at hf
  obtain ⟨a0, a1, a2, a3, a4, a5, a6, a7, a8, a9, a10, a11, a12, a13, a14, a15, a16, _⟩ := hf
  simp only [and_t, and_f, not_t, le_t, le_f, lt_t, eq_t, eq_f, d_c, d_v, d_bv, d_add, d_sub, d_mul, d_rd, d_av, p3e3, p3e4, p3e5, p3e6, p3e7, p3e8, p3e9, p3e10, p3e11, p3e12, p3e110, p3e119] at a0 a1 a2 a3 a4 a5 a6 a7 a8 a9 a10 a11 a12 a13 a14 a15 a16
  have hl : E.i 20 < E.i 0 := a16
  obtain ⟨hin, h1, h2⟩ := cx.in hl
  obtain ⟨hS, hK, hpc⟩ := sk8 (E := E) (c := 2) (kd := 0) (by omega) (by omega)
  obtain ⟨A6, A7, A3, A4⟩ := aa2 hpc
  have F6 : ¬ _ := (fun h => by have h := A6.1 h; cases hb : E.b 4 <;> simp only [hb, Bool.false_eq_true, false_and, or_false, true_and, ne_eq] at h a0 a3 a4 <;> omega)
  have F7 : ¬ _ := (fun h => by have h := A7.1 h; omega)
  have F3 : ¬ _ := (fun h => by have h := A3.1 h; omega)
  have T4 := A4.2 (by exact a0)
  have hst : stp 1 (fE E) (inpE E) = _ := stp0d hK F6 F7 F3
  (try rw [hpc] at hst)
  exact go8s (.i (.c 3) (.i (.c 0) (.b (.c false) (.b (.c false) (.i (.v 303) (.i (.v 304) (.i (.v 4) (.i (.v 5) .nil)))))))) cx hl hst hS (fun _ => (by (cases E; cases cx.hE; simp only [comeC, ← imx_max]; rfl))) (fun _ => (by (show (⟨(p3e113 : SE).den E, ((.v 302) : SE).den E, ((.v 303) : SE).den E, ((.v 304) : SE).den E, ((.v 305) : SE).den E, (p3e112 : SE).den E, (p3e111 : SE).den E, ((.v 308) : SE).den E, ((.v 309) : SE).den E, ((.v 310) : SE).den E, b2i (((.not (.and (.not (.v 4)) (.eq p3e5 (.c 0)))) : SB).den E), 0⟩ : P1) = _; (simp only [comeP, pE, inpE, Nat.reduceMul, Nat.reduceAdd, not_d, and_d, eq_d, d_c, d_v, d_ap, d_sli, d_slnil, d_bv, d_add, d_sub, d_mul, d_mx, d_rd, d_av, p3e3, p3e4, p3e5, p3e6, p3e7, p3e11, p3e12, p3e110, p3e111, p3e112, p3e113, cx.hE, f9, f10, imx_max, fin_or2]; rfl)))) (fun _ => (ne3c rfl rfl)) (code_3 hK F6 F7 (.inr T4)).symm (num_c hK) (is_c hK) (also_c hK)
theorem w3_63 (cx : Cx 3 E0 E k) : Gl 3 E0 E p3x63 := by
  intro hf
  simp only [facts_cons, p3f41, p3f40, p3f39, p3f38, p3f37, p3f4, p3f3, p3f2, p3f1, p3f0] at hf
  obtain ⟨a0, a1, a2, a3, a4, a5, a6, a7, a8, a9, a10, a11, a12, a13, a14, a15, a16, _⟩ := hf
  simp only [and_t, and_f, not_t, le_t, le_f, lt_t, eq_t, eq_f, d_c, d_v, d_bv, d_add, d_sub, d_mul, d_rd, d_av, p3e3, p3e4, p3e5, p3e6, p3e7, p3e8, p3e9, p3e10, p3e11, p3e12, p3e110, p3e119] at a0 a1 a2 a3 a4 a5 a6 a7 a8 a9 a10 a11 a12 a13 a14 a15 a16
  have hl : E.i 20 < E.i 0 := a16
  obtain ⟨hin, h1, h2⟩ := cx.in hl
  obtain ⟨hS, hK, hpc⟩ := sk8 (E := E) (c := 2) (kd := 0) (by omega) (by omega)
  obtain ⟨A6, A7, A3, A4⟩ := aa2 hpc
  have F6 : ¬ _ := (fun h => by have h := A6.1 h; cases hb : E.b 4 <;> simp only [hb, Bool.false_eq_true, false_and, or_false, true_and, ne_eq] at h a0 a3 a4 <;> omega)
  have F7 : ¬ _ := (fun h => by have h := A7.1 h; omega)
  have F3 : ¬ _ := (fun h => by have h := A3.1 h; omega)
  have F4 : ¬ _ := (fun h => by have h := A4.1 h; omega)
  have hst : stp 1 (fE E) (inpE E) = _ := stp0d hK F6 F7 F3
  (try rw [hpc] at hst)
  exact go8s (.i (.c 0) (.i (.c 0) (.b (.c false) (.b (.c false) (.i (.v 303) (.i (.v 304) (.i (.v 4) (.i (.v 5) .nil)))))))) cx hl hst hS (fun _ => (by (cases E; cases cx.hE; simp only [comeC, ← imx_max]; rfl))) (fun _ => (by (show (⟨(p3e113 : SE).den E, ((.v 302) : SE).den E, ((.v 303) : SE).den E, ((.v 304) : SE).den E, ((.v 305) : SE).den E, (p3e112 : SE).den E, (p3e111 : SE).den E, ((.v 308) : SE).den E, ((.v 309) : SE).den E, ((.v 310) : SE).den E, b2i (((.not (.and (.not (.v 4)) (.eq p3e5 (.c 0)))) : SB).den E), 0⟩ : P1) = _; (simp only [comeP, pE, inpE, Nat.reduceMul, Nat.reduceAdd, not_d, and_d, eq_d, d_c, d_v, d_ap, d_sli, d_slnil, d_bv, d_add, d_sub, d_mul, d_mx, d_rd, d_av, p3e3, p3e4, p3e5, p3e6, p3e7, p3e11, p3e12, p3e110, p3e111, p3e112, p3e113, cx.hE, f9, f10, imx_max, fin_or2]; rfl)))) (fun _ => (ne3c rfl rfl)) (code_0 hK F6 F7 F3 F4).symm (num_c hK) (is_c hK) (also_c hK)
theorem w3_64 (cx : Cx 3 E0 E k) : Gl 3 E0 E p3x64 := by
  intro hf
  simp only [facts_cons, p3f42, p3f37, p3f4, p3f3, p3f2, p3f1, p3f0] at hf
  obtain ⟨a0, a1, a2, a3, a4, a5, a6, a7, a8, a9, a10, a11, a12, a13, a14, _⟩ := hf
  simp only [le_t, le_f, lt_t, eq_t, eq_f, d_c, d_v, d_add, d_mul, d_rd, d_av, p3e3, p3e6, p3e7, p3e8, p3e9, p3e10, p3e11, p3e12, p3e24, p3e25] at a0 a1 a2 a3 a4 a5 a6 a7 a8 a9 a10 a11 a12 a13 a14
  have hl : E.i 20 < E.i 0 := a14
  obtain ⟨hin, h1, h2⟩ := cx.in hl
  obtain ⟨hS, hK, hpc⟩ := sk8 (E := E) (c := 2) (kd := 1) (by omega) (by omega)
  have hst : stp 1 (fE E) (inpE E) = _ := stp1 hK
  (try rw [hpc] at hst)
  refine go8s (.i (.c 0) (.i (.c 0) (.b (.and (.not (.v 4)) (.le p3e122 p3e124)) (.b (.le p3e31 p3e33) (.i (.v 303) (.i (.v 304) (.i (.v 4) (.i (.v 5) .nil)))))))) cx hl hst hS (fun _ => (by rfl)) (fun _ => (by rfl)) (fun _ => (ne3c rfl rfl)) (code_c hK) (num_c hK) ?_ ?_
  · show b2i (((.and (.not (.v 4)) (.le p3e122 p3e124)) : SB).den E) = _
    rw [b2i_iff, is_1 hK]
    (try rw [hpc])
    simp only [pE, inpE, Nat.reduceMul, Nat.reduceAdd, d_c, d_v, d_bv, d_add, d_sub, d_mul, d_tdiv, d_rd, d_av, p3e3, p3e24, p3e25, p3e121, p3e122, p3e123, p3e124, and_t, not_t, le_t, b2i_z, duE]
    (try (rw [tdn (by have g := (good8 cx.hI cx.hsc).2.1 2 (by omega); simp only [okP, fE, pE, Nat.reduceMul, Nat.reduceAdd] at g; omega)]))
  · show b2i (((.le p3e31 p3e33) : SB).den E) = _
    rw [b2i_iff, also_1 hK]
    simp only [fE, cE, inpE, d_c, d_v, d_add, d_sub, d_mul, d_tdiv, d_rd, d_av, p3e3, p3e24, p3e25, p3e27, p3e31, p3e32, p3e33, le_t, duE]
    (try (rw [tdn (by have g := (good8 cx.hI cx.hsc).1; simp only [okP, fE, cE] at g; omega)]))
theorem w3_65 (cx : Cx 3 E0 E k) : Gl 3 E0 E p3x65 := by
  intro hf
  simp only [facts_cons, p3f42, p3f37, p3f4, p3f3, p3f2, p3f1, p3f0] at hf
  obtain ⟨a0, a1, a2, a3, a4, a5, a6, a7, a8, a9, a10, a11, a12, a13, a14, _⟩ := hf
  simp only [le_t, le_f, lt_t, eq_t, eq_f, d_c, d_v, d_add, d_mul, d_rd, d_av, p3e3, p3e6, p3e7, p3e8, p3e9, p3e10, p3e11, p3e12, p3e24, p3e25] at a0 a1 a2 a3 a4 a5 a6 a7 a8 a9 a10 a11 a12 a13 a14
  have hl : E.i 20 < E.i 0 := a14
  obtain ⟨hin, h1, h2⟩ := cx.in hl
  have hS : (E.a 0 (E.i 20 * 6 + 1).toNat).toNat = 2 := by omega
  have hK : E.a 0 (E.i 20 * 6).toNat = 1 := by omega
  simp only [okIn, inpE, hS, fE, pE, cE, Nat.reduceMul, Nat.reduceAdd] at hin
  omega
theorem w3_66 (cx : Cx 3 E0 E k) : Gl 3 E0 E p3x66 := by
  intro hf
  simp only [facts_cons, p3f42, p3f37, p3f4, p3f3, p3f2, p3f1, p3f0] at hf
  obtain ⟨a0, a1, a2, a3, a4, a5, a6, a7, a8, a9, a10, a11, a12, a13, _⟩ := hf
  simp only [le_t, le_f, lt_t, eq_t, eq_f, d_c, d_v, d_add, d_mul, d_rd, d_av, p3e3, p3e6, p3e7, p3e8, p3e9, p3e10, p3e11, p3e12, p3e24, p3e25] at a0 a1 a2 a3 a4 a5 a6 a7 a8 a9 a10 a11 a12 a13
  have hl : E.i 20 < E.i 0 := a13
  obtain ⟨hin, h1, h2⟩ := cx.in hl
  have hS : (E.a 0 (E.i 20 * 6 + 1).toNat).toNat = 2 := by omega
  have hK : E.a 0 (E.i 20 * 6).toNat = 1 := by omega
  simp only [okIn, inpE, hS, fE, pE, cE, Nat.reduceMul, Nat.reduceAdd] at hin
  omega
theorem w3_67 (cx : Cx 3 E0 E k) : Gl 3 E0 E p3x67 := by
  intro hf
  simp only [facts_cons, p3f43, p3f37, p3f4, p3f3, p3f2, p3f1, p3f0] at hf
  obtain ⟨a0, a1, a2, a3, a4, a5, a6, a7, a8, a9, a10, a11, a12, a13, a14, _⟩ := hf
  simp only [le_t, le_f, lt_t, eq_t, eq_f, d_c, d_v, d_add, d_mul, d_rd, d_av, p3e3, p3e6, p3e7, p3e8, p3e9, p3e10, p3e11, p3e12] at a0 a1 a2 a3 a4 a5 a6 a7 a8 a9 a10 a11 a12 a13 a14
  have hl : E.i 20 < E.i 0 := a14
  obtain ⟨hin, h1, h2⟩ := cx.in hl
  obtain ⟨hS, hK, hpc⟩ := sk8 (E := E) (c := 2) (kd := 2) (by omega) (by omega)
  have hst : stp 1 (fE E) (inpE E) = _ := stp2 hK
  (try rw [hpc] at hst)
  exact go8s (.i (.c 0) (.i (.c 0) (.b (.c false) (.b (.c false) (.i (.v 303) (.i (.v 304) (.i (.v 4) (.i (.v 5) .nil)))))))) cx hl hst hS (fun _ => (by rfl)) (fun _ => (by rfl)) (fun _ => (ne3c rfl rfl)) (code_c hK) (num_c hK) (is_c hK) (also_c hK)
theorem w3_68 (cx : Cx 3 E0 E k) : Gl 3 E0 E p3x68 := by
  intro hf
  simp only [facts_cons, p3f43, p3f37, p3f4, p3f3, p3f2, p3f1, p3f0] at hf
  obtain ⟨a0, a1, a2, a3, a4, a5, a6, a7, a8, a9, a10, a11, a12, a13, a14, _⟩ := hf
  simp only [le_t, le_f, lt_t, eq_t, eq_f, d_c, d_v, d_add, d_mul, d_rd, d_av, p3e3, p3e6, p3e7, p3e8, p3e9, p3e10, p3e11, p3e12] at a0 a1 a2 a3 a4 a5 a6 a7 a8 a9 a10 a11 a12 a13 a14
  have hl : E.i 20 < E.i 0 := a14
  obtain ⟨hin, h1, h2⟩ := cx.in hl
  have hS : (E.a 0 (E.i 20 * 6 + 1).toNat).toNat = 2 := by omega
  have hK : E.a 0 (E.i 20 * 6).toNat = 2 := by omega
  simp only [okIn, inpE, hS, fE, pE, cE, Nat.reduceMul, Nat.reduceAdd] at hin
  omega
theorem w3_69 (cx : Cx 3 E0 E k) : Gl 3 E0 E p3x69 := by
  intro hf
  simp only [facts_cons, p3f44, p3f43, p3f37, p3f4, p3f3, p3f2, p3f1, p3f0] at hf
  obtain ⟨a0, a1, a2, a3, a4, a5, a6, a7, a8, a9, a10, a11, a12, a13, a14, a15, _⟩ := hf
  simp only [le_t, le_f, lt_t, eq_t, eq_f, d_c, d_v, d_bv, d_add, d_mul, d_rd, d_av, p3e3, p3e6, p3e7, p3e8, p3e9, p3e10, p3e11, p3e12] at a0 a1 a2 a3 a4 a5 a6 a7 a8 a9 a10 a11 a12 a13 a14 a15
  have hl : E.i 20 < E.i 0 := a15
  obtain ⟨hin, h1, h2⟩ := cx.in hl
  obtain ⟨hS, hK, hpc⟩ := sk8 (E := E) (c := 2) (kd := 3) (by omega) (by omega)
  have T6 : ((fE E).p (inpE E).S.toNat).fin ≠ 0 := by rw [hpc]; exact b2i_ne.2 a0
  have hst : stp 1 (fE E) (inpE E) = _ := stp3a hK T6
  (try rw [hpc] at hst)
  refine go8n (.i (.c 0) (.i (.c 0) (.b (.c false) (.b (.c false) (.i (.v 303) (.i (.v 304) (.i (.v 4) (.i (.v 5) .nil)))))))) cx hl hst hS (fun _ => rfl) (fun _ => (al3 rfl rfl rfl)) (code_c hK) ?_ (is_c hK) (also_c hK)
  · rw [num_3a hK T6]; rfl
end Go.Proofs.YtpjifimjoinnnaaDoor
