/- Ways of the play with 1 stream. -/
import Derived.Test.YtpjifimjoinnnaaDoorFcI
import Derived.Test.YtpjifimjoinnnaaDoorFcQ1
import Derived.KernelRfl
set_option autoImplicit true
set_option relaxedAutoImplicit true
set_option linter.unusedVariables false
set_option linter.unusedSimpArgs false
set_option maxRecDepth 100000
set_option maxHeartbeats 4000000
namespace Go.Proofs.YtpjifimjoinnnaaDoor
open Go Go.Sy Go.RowKit
variable {E0 E : Env} {k : Nat}
theorem w1_0 (cx : Cx 1 E0 E k) : Gl 1 E0 E p1x0 := by
  intro hf
  simp only [facts_cons, p1f4, p1f3, p1f2, p1f1, p1f0] at hf
  obtain ⟨a0, a1, a2, a3, a4, a5, a6, a7, a8, a9, a10, _⟩ := hf
  simp only [and_t, not_t, le_t, lt_t, eq_t, eq_f, d_c, d_v, d_bv, d_add, d_mul, d_rd, d_av, p1e3, p1e4, p1e5, p1e6, p1e7, p1e8, p1e9, p1e10, p1e11, p1e12] at a0 a1 a2 a3 a4 a5 a6 a7 a8 a9 a10
  have hl : E.i 20 < E.i 0 := a10
  obtain ⟨hin, h1, h2⟩ := cx.in hl
  obtain ⟨hS, hK, hpc⟩ := sk8 (E := E) (c := 0) (kd := 0) (by omega) (by omega)
  obtain ⟨A6, A7, A3, A4⟩ := aa0 hpc
  have T6 := A6.2 (by exact .inl a0)
  have hst : stp 1 (fE E) (inpE E) = _ := stp0a hK T6
  (try rw [hpc] at hst)
  exact go8n (.i (.c 6) (.i (.c 0) (.b (.c false) (.b (.c false) (.i (.v 103) (.i (.v 104) (.i (.v 4) (.i (.v 5) .nil)))))))) cx hl hst hS (fun _ => rfl) (fun _ => (al1 rfl)) (code_6 hK (.inl T6)).symm (num_c hK) (is_c hK) (also_c hK)
theorem w1_1 (cx : Cx 1 E0 E k) : Gl 1 E0 E p1x1 := by
  intro hf
  simp only [facts_cons, p1f5, p1f4, p1f3, p1f2, p1f1, p1f0] at hf
  obtain ⟨a0, a1, a2, a3, a4, a5, a6, a7, a8, a9, a10, a11, _⟩ := hf
  simp only [and_t, and_f, not_t, le_t, lt_t, eq_t, eq_f, d_c, d_v, d_bv, d_add, d_mul, d_rd, d_av, p1e3, p1e4, p1e5, p1e6, p1e7, p1e8, p1e9, p1e10, p1e11, p1e12] at a0 a1 a2 a3 a4 a5 a6 a7 a8 a9 a10 a11
  have hl : E.i 20 < E.i 0 := a11
  obtain ⟨hin, h1, h2⟩ := cx.in hl
  obtain ⟨hS, hK, hpc⟩ := sk8 (E := E) (c := 0) (kd := 0) (by omega) (by omega)
  obtain ⟨A6, A7, A3, A4⟩ := aa0 hpc
  have T6 := A6.2 (by exact .inr a0)
  have hst : stp 1 (fE E) (inpE E) = _ := stp0a hK T6
  (try rw [hpc] at hst)
  exact go8n (.i (.c 6) (.i (.c 0) (.b (.c false) (.b (.c false) (.i (.v 103) (.i (.v 104) (.i (.v 4) (.i (.v 5) .nil)))))))) cx hl hst hS (fun _ => rfl) (fun _ => (al1 rfl)) (code_6 hK (.inl T6)).symm (num_c hK) (is_c hK) (also_c hK)
theorem w1_2 (cx : Cx 1 E0 E k) : Gl 1 E0 E p1x2 := by
  intro hf
  simp only [facts_cons, p1f6, p1f5, p1f4, p1f3, p1f2, p1f1, p1f0] at hf
  obtain ⟨a0, a1, a2, a3, a4, a5, a6, a7, a8, a9, a10, a11, a12, _⟩ := hf
  simp only [and_t, and_f, not_t, le_t, lt_t, eq_t, eq_f, d_c, d_v, d_bv, d_add, d_mul, d_rd, d_av, p1e3, p1e4, p1e5, p1e6, p1e7, p1e8, p1e9, p1e10, p1e11, p1e12] at a0 a1 a2 a3 a4 a5 a6 a7 a8 a9 a10 a11 a12
  have hl : E.i 20 < E.i 0 := a12
  obtain ⟨hin, h1, h2⟩ := cx.in hl
  obtain ⟨hS, hK, hpc⟩ := sk8 (E := E) (c := 0) (kd := 0) (by omega) (by omega)
  obtain ⟨A6, A7, A3, A4⟩ := aa0 hpc
  have F6 : ¬ _ := (fun h => by have h := A6.1 h; cases hb : E.b 2 <;> simp only [hb, Bool.false_eq_true, false_and, or_false, true_and, ne_eq] at h a1 a2 <;> omega)
  have T7 := A7.2 (by exact a0)
  have hst : stp 1 (fE E) (inpE E) = _ := stp0b hK F6 T7
  (try rw [hpc] at hst)
  exact go8s (.i (.c 6) (.i (.c 0) (.b (.c false) (.b (.c false) (.i (.v 103) (.i (.v 104) (.i (.v 4) (.i (.v 5) .nil)))))))) cx hl hst hS (fun _ => rfl) (fun _ => (by rfl)) (fun _ => ne1) (code_6 hK (.inr T7)).symm (num_c hK) (is_c hK) (also_c hK)
theorem w1_3 (cx : Cx 1 E0 E k) : Gl 1 E0 E p1x3 := by
  intro hf
  simp only [facts_cons, p1f7, p1f6, p1f5, p1f4, p1f3, p1f2, p1f1, p1f0] at hf
  obtain ⟨a0, a1, a2, a3, a4, a5, a6, a7, a8, a9, a10, a11, a12, a13, _⟩ := hf
  simp only [and_t, and_f, not_t, le_t, lt_t, eq_t, eq_f, d_c, d_v, d_bv, d_add, d_mul, d_rd, d_av, p1e3, p1e4, p1e5, p1e6, p1e7, p1e8, p1e9, p1e10, p1e11, p1e12] at a0 a1 a2 a3 a4 a5 a6 a7 a8 a9 a10 a11 a12 a13
  have hl : E.i 20 < E.i 0 := a13
  obtain ⟨hin, h1, h2⟩ := cx.in hl
  obtain ⟨hS, hK, hpc⟩ := sk8 (E := E) (c := 0) (kd := 0) (by omega) (by omega)
  obtain ⟨A6, A7, A3, A4⟩ := aa0 hpc
  have F6 : ¬ _ := (fun h => by have h := A6.1 h; cases hb : E.b 2 <;> simp only [hb, Bool.false_eq_true, false_and, or_false, true_and, ne_eq] at h a2 a3 <;> omega)
  have F7 : ¬ _ := (fun h => by have h := A7.1 h; omega)
  have T3 := A3.2 (by exact a0)
  have hst : stp 1 (fE E) (inpE E) = _ := stp0c hK F6 F7 T3
  (try rw [hpc] at hst)
  exact go8s (.i (.c 3) (.i (.c 0) (.b (.c false) (.b (.c false) (.i (.v 103) (.i (.v 104) (.i (.v 4) (.i (.v 5) .nil)))))))) cx hl hst hS (fun _ => rfl) (fun _ => (by (show (⟨(p1e16 : SE).den E, ((.v 102) : SE).den E, ((.v 103) : SE).den E, ((.v 104) : SE).den E, ((.v 105) : SE).den E, (p1e15 : SE).den E, (p1e14 : SE).den E, ((.v 108) : SE).den E, ((.v 109) : SE).den E, ((.v 110) : SE).den E, b2i (((.not (.and (.not (.v 2)) (.eq p1e5 (.c 0)))) : SB).den E), 0⟩ : P1) = _; (simp only [comeP, pE, inpE, Nat.reduceMul, Nat.reduceAdd, not_d, and_d, eq_d, d_c, d_v, d_ap, d_sli, d_slnil, d_bv, d_add, d_sub, d_mul, d_mx, d_rd, d_av, p1e3, p1e4, p1e5, p1e6, p1e7, p1e9, p1e10, p1e13, p1e14, p1e15, p1e16, cx.hE, f9, f10, imx_max, fin_or2]; rfl)))) (fun _ => ne1) (code_3 hK F6 F7 (.inl T3)).symm (num_c hK) (is_c hK) (also_c hK)
theorem w1_4 (cx : Cx 1 E0 E k) : Gl 1 E0 E p1x4 := by
  intro hf
  simp only [facts_cons, p1f8, p1f7, p1f6, p1f5, p1f4, p1f3, p1f2, p1f1, p1f0] at hf
  obtain ⟨a0, a1, a2, a3, a4, a5, a6, a7, a8, a9, a10, a11, a12, a13, a14, _⟩ := hf
  simp only [and_t, and_f, not_t, le_t, lt_t, eq_t, eq_f, d_c, d_v, d_bv, d_add, d_sub, d_mul, d_rd, d_av, p1e3, p1e4, p1e5, p1e6, p1e7, p1e8, p1e9, p1e10, p1e11, p1e12, p1e13, p1e22] at a0 a1 a2 a3 a4 a5 a6 a7 a8 a9 a10 a11 a12 a13 a14
  have hl : E.i 20 < E.i 0 := a14
  obtain ⟨hin, h1, h2⟩ := cx.in hl
  obtain ⟨hS, hK, hpc⟩ := sk8 (E := E) (c := 0) (kd := 0) (by omega) (by omega)
  obtain ⟨A6, A7, A3, A4⟩ := aa0 hpc
  have F6 : ¬ _ := (fun h => by have h := A6.1 h; cases hb : E.b 2 <;> simp only [hb, Bool.false_eq_true, false_and, or_false, true_and, ne_eq] at h a3 a4 <;> omega)
  have F7 : ¬ _ := (fun h => by have h := A7.1 h; omega)
  have F3 : ¬ _ := (fun h => by have h := A3.1 h; omega)
  have T4 := A4.2 (by exact a0)
  have hst : stp 1 (fE E) (inpE E) = _ := stp0d hK F6 F7 F3
  (try rw [hpc] at hst)
  exact go8s (.i (.c 3) (.i (.c 0) (.b (.c false) (.b (.c false) (.i (.v 103) (.i (.v 104) (.i (.v 4) (.i (.v 5) .nil)))))))) cx hl hst hS (fun _ => (by (cases E; cases cx.hE; simp only [comeC, ← imx_max]; rfl))) (fun _ => (by (show (⟨(p1e16 : SE).den E, ((.v 102) : SE).den E, ((.v 103) : SE).den E, ((.v 104) : SE).den E, ((.v 105) : SE).den E, (p1e15 : SE).den E, (p1e14 : SE).den E, ((.v 108) : SE).den E, ((.v 109) : SE).den E, ((.v 110) : SE).den E, b2i (((.not (.and (.not (.v 2)) (.eq p1e5 (.c 0)))) : SB).den E), 0⟩ : P1) = _; (simp only [comeP, pE, inpE, Nat.reduceMul, Nat.reduceAdd, not_d, and_d, eq_d, d_c, d_v, d_ap, d_sli, d_slnil, d_bv, d_add, d_sub, d_mul, d_mx, d_rd, d_av, p1e3, p1e4, p1e5, p1e6, p1e7, p1e9, p1e10, p1e13, p1e14, p1e15, p1e16, cx.hE, f9, f10, imx_max, fin_or2]; rfl)))) (fun _ => ne1) (code_3 hK F6 F7 (.inr T4)).symm (num_c hK) (is_c hK) (also_c hK)
theorem w1_5 (cx : Cx 1 E0 E k) : Gl 1 E0 E p1x5 := by
  intro hf
  simp only [facts_cons, p1f8, p1f7, p1f6, p1f5, p1f4, p1f3, p1f2, p1f1, p1f0] at hf
  obtain ⟨a0, a1, a2, a3, a4, a5, a6, a7, a8, a9, a10, a11, a12, a13, a14, _⟩ := hf
  simp only [and_t, and_f, not_t, le_t, lt_t, eq_t, eq_f, d_c, d_v, d_bv, d_add, d_sub, d_mul, d_rd, d_av, p1e3, p1e4, p1e5, p1e6, p1e7, p1e8, p1e9, p1e10, p1e11, p1e12, p1e13, p1e22] at a0 a1 a2 a3 a4 a5 a6 a7 a8 a9 a10 a11 a12 a13 a14
  have hl : E.i 20 < E.i 0 := a14
  obtain ⟨hin, h1, h2⟩ := cx.in hl
  obtain ⟨hS, hK, hpc⟩ := sk8 (E := E) (c := 0) (kd := 0) (by omega) (by omega)
  obtain ⟨A6, A7, A3, A4⟩ := aa0 hpc
  have F6 : ¬ _ := (fun h => by have h := A6.1 h; cases hb : E.b 2 <;> simp only [hb, Bool.false_eq_true, false_and, or_false, true_and, ne_eq] at h a3 a4 <;> omega)
  have F7 : ¬ _ := (fun h => by have h := A7.1 h; omega)
  have F3 : ¬ _ := (fun h => by have h := A3.1 h; omega)
  have F4 : ¬ _ := (fun h => by have h := A4.1 h; omega)
  have hst : stp 1 (fE E) (inpE E) = _ := stp0d hK F6 F7 F3
  (try rw [hpc] at hst)
  exact go8s (.i (.c 0) (.i (.c 0) (.b (.c false) (.b (.c false) (.i (.v 103) (.i (.v 104) (.i (.v 4) (.i (.v 5) .nil)))))))) cx hl hst hS (fun _ => (by (cases E; cases cx.hE; simp only [comeC, ← imx_max]; rfl))) (fun _ => (by (show (⟨(p1e16 : SE).den E, ((.v 102) : SE).den E, ((.v 103) : SE).den E, ((.v 104) : SE).den E, ((.v 105) : SE).den E, (p1e15 : SE).den E, (p1e14 : SE).den E, ((.v 108) : SE).den E, ((.v 109) : SE).den E, ((.v 110) : SE).den E, b2i (((.not (.and (.not (.v 2)) (.eq p1e5 (.c 0)))) : SB).den E), 0⟩ : P1) = _; (simp only [comeP, pE, inpE, Nat.reduceMul, Nat.reduceAdd, not_d, and_d, eq_d, d_c, d_v, d_ap, d_sli, d_slnil, d_bv, d_add, d_sub, d_mul, d_mx, d_rd, d_av, p1e3, p1e4, p1e5, p1e6, p1e7, p1e9, p1e10, p1e13, p1e14, p1e15, p1e16, cx.hE, f9, f10, imx_max, fin_or2]; rfl)))) (fun _ => ne1) (code_0 hK F6 F7 F3 F4).symm (num_c hK) (is_c hK) (also_c hK)
theorem w1_6 (cx : Cx 1 E0 E k) : Gl 1 E0 E p1x6 := by
  intro hf
  simp only [facts_cons, p1f9, p1f4, p1f3, p1f2, p1f1, p1f0] at hf
  obtain ⟨a0, a1, a2, a3, a4, a5, a6, a7, a8, a9, a10, a11, a12, _⟩ := hf
  simp only [le_t, lt_t, eq_t, eq_f, d_c, d_v, d_add, d_mul, d_rd, d_av, p1e3, p1e6, p1e7, p1e8, p1e9, p1e10, p1e11, p1e12, p1e24, p1e25] at a0 a1 a2 a3 a4 a5 a6 a7 a8 a9 a10 a11 a12
  have hl : E.i 20 < E.i 0 := a12
  obtain ⟨hin, h1, h2⟩ := cx.in hl
  obtain ⟨hS, hK, hpc⟩ := sk8 (E := E) (c := 0) (kd := 1) (by omega) (by omega)
  have hst : stp 1 (fE E) (inpE E) = _ := stp1 hK
  (try rw [hpc] at hst)
  refine go8s (.i (.c 0) (.i (.c 0) (.b (.and (.not (.v 2)) (.le p1e28 p1e30)) (.b (.le p1e31 p1e33) (.i (.v 103) (.i (.v 104) (.i (.v 4) (.i (.v 5) .nil)))))))) cx hl hst hS (fun _ => (by rfl)) (fun _ => (by rfl)) (fun _ => ne1) (code_c hK) (num_c hK) ?_ ?_
  · show b2i (((.and (.not (.v 2)) (.le p1e28 p1e30)) : SB).den E) = _
    rw [b2i_iff, is_1 hK]
    (try rw [hpc])
    simp only [pE, inpE, Nat.reduceMul, Nat.reduceAdd, d_c, d_v, d_bv, d_add, d_sub, d_mul, d_tdiv, d_rd, d_av, p1e3, p1e24, p1e25, p1e26, p1e28, p1e29, p1e30, and_t, not_t, le_t, b2i_z, duE]
    (try (rw [tdn (by have g := (good8 cx.hI cx.hsc).2.1 0 (by omega); simp only [okP, fE, pE, Nat.reduceMul, Nat.reduceAdd] at g; omega)]))
  · show b2i (((.le p1e31 p1e33) : SB).den E) = _
    rw [b2i_iff, also_1 hK]
    simp only [fE, cE, inpE, d_c, d_v, d_add, d_sub, d_mul, d_tdiv, d_rd, d_av, p1e3, p1e24, p1e25, p1e27, p1e31, p1e32, p1e33, le_t, duE]
    (try (rw [tdn (by have g := (good8 cx.hI cx.hsc).1; simp only [okP, fE, cE] at g; omega)]))
theorem w1_7 (cx : Cx 1 E0 E k) : Gl 1 E0 E p1x7 := by
  intro hf
  simp only [facts_cons, p1f9, p1f4, p1f3, p1f2, p1f1, p1f0] at hf
  obtain ⟨a0, a1, a2, a3, a4, a5, a6, a7, a8, a9, a10, a11, a12, _⟩ := hf
  simp only [le_t, le_f, lt_t, eq_t, eq_f, d_c, d_v, d_add, d_mul, d_rd, d_av, p1e3, p1e6, p1e7, p1e8, p1e9, p1e10, p1e11, p1e12, p1e24, p1e25] at a0 a1 a2 a3 a4 a5 a6 a7 a8 a9 a10 a11 a12
  have hl : E.i 20 < E.i 0 := a12
  obtain ⟨hin, h1, h2⟩ := cx.in hl
  have hS : (E.a 0 (E.i 20 * 6 + 1).toNat).toNat = 0 := by omega
  have hK : E.a 0 (E.i 20 * 6).toNat = 1 := by omega
  simp only [okIn, inpE, hS, fE, pE, cE, Nat.reduceMul, Nat.reduceAdd] at hin
  omega
theorem w1_8 (cx : Cx 1 E0 E k) : Gl 1 E0 E p1x8 := by
  intro hf
  simp only [facts_cons, p1f9, p1f4, p1f3, p1f2, p1f1, p1f0] at hf
  obtain ⟨a0, a1, a2, a3, a4, a5, a6, a7, a8, a9, a10, a11, _⟩ := hf
  simp only [le_t, le_f, lt_t, eq_t, eq_f, d_c, d_v, d_add, d_mul, d_rd, d_av, p1e3, p1e6, p1e7, p1e8, p1e9, p1e10, p1e11, p1e12, p1e24, p1e25] at a0 a1 a2 a3 a4 a5 a6 a7 a8 a9 a10 a11
  have hl : E.i 20 < E.i 0 := a11
  obtain ⟨hin, h1, h2⟩ := cx.in hl
  have hS : (E.a 0 (E.i 20 * 6 + 1).toNat).toNat = 0 := by omega
  have hK : E.a 0 (E.i 20 * 6).toNat = 1 := by omega
  simp only [okIn, inpE, hS, fE, pE, cE, Nat.reduceMul, Nat.reduceAdd] at hin
  omega
theorem w1_9 (cx : Cx 1 E0 E k) : Gl 1 E0 E p1x9 := by
  intro hf
  simp only [facts_cons, p1f10, p1f4, p1f3, p1f2, p1f1, p1f0] at hf
  obtain ⟨a0, a1, a2, a3, a4, a5, a6, a7, a8, a9, a10, a11, a12, _⟩ := hf
  simp only [le_t, lt_t, eq_t, eq_f, d_c, d_v, d_add, d_mul, d_rd, d_av, p1e3, p1e6, p1e7, p1e8, p1e9, p1e10, p1e11, p1e12] at a0 a1 a2 a3 a4 a5 a6 a7 a8 a9 a10 a11 a12
  have hl : E.i 20 < E.i 0 := a12
  obtain ⟨hin, h1, h2⟩ := cx.in hl
  obtain ⟨hS, hK, hpc⟩ := sk8 (E := E) (c := 0) (kd := 2) (by omega) (by omega)
  have hst : stp 1 (fE E) (inpE E) = _ := stp2 hK
  (try rw [hpc] at hst)
  exact go8s (.i (.c 0) (.i (.c 0) (.b (.c false) (.b (.c false) (.i (.v 103) (.i (.v 104) (.i (.v 4) (.i (.v 5) .nil)))))))) cx hl hst hS (fun _ => (by rfl)) (fun _ => (by rfl)) (fun _ => ne1) (code_c hK) (num_c hK) (is_c hK) (also_c hK)
theorem w1_10 (cx : Cx 1 E0 E k) : Gl 1 E0 E p1x10 := by
  intro hf
  simp only [facts_cons, p1f10, p1f4, p1f3, p1f2, p1f1, p1f0] at hf
  obtain ⟨a0, a1, a2, a3, a4, a5, a6, a7, a8, a9, a10, a11, a12, _⟩ := hf
  simp only [le_t, le_f, lt_t, eq_t, eq_f, d_c, d_v, d_add, d_mul, d_rd, d_av, p1e3, p1e6, p1e7, p1e8, p1e9, p1e10, p1e11, p1e12] at a0 a1 a2 a3 a4 a5 a6 a7 a8 a9 a10 a11 a12
  have hl : E.i 20 < E.i 0 := a12
  obtain ⟨hin, h1, h2⟩ := cx.in hl
  have hS : (E.a 0 (E.i 20 * 6 + 1).toNat).toNat = 0 := by omega
  have hK : E.a 0 (E.i 20 * 6).toNat = 2 := by omega
  simp only [okIn, inpE, hS, fE, pE, cE, Nat.reduceMul, Nat.reduceAdd] at hin
  omega
theorem w1_11 (cx : Cx 1 E0 E k) : Gl 1 E0 E p1x11 := by
  intro hf
  simp only [facts_cons, p1f11, p1f10, p1f4, p1f3, p1f2, p1f1, p1f0] at hf
  obtain ⟨a0, a1, a2, a3, a4, a5, a6, a7, a8, a9, a10, a11, a12, a13, _⟩ := hf
  simp only [le_t, lt_t, eq_t, eq_f, d_c, d_v, d_bv, d_add, d_mul, d_rd, d_av, p1e3, p1e6, p1e7, p1e8, p1e9, p1e10, p1e11, p1e12] at a0 a1 a2 a3 a4 a5 a6 a7 a8 a9 a10 a11 a12 a13
  have hl : E.i 20 < E.i 0 := a13
  obtain ⟨hin, h1, h2⟩ := cx.in hl
  obtain ⟨hS, hK, hpc⟩ := sk8 (E := E) (c := 0) (kd := 3) (by omega) (by omega)
  have T6 : ((fE E).p (inpE E).S.toNat).fin ≠ 0 := by rw [hpc]; exact b2i_ne.2 a0
  have hst : stp 1 (fE E) (inpE E) = _ := stp3a hK T6
  (try rw [hpc] at hst)
  refine go8n (.i (.c 0) (.i (.c 0) (.b (.c false) (.b (.c false) (.i (.v 103) (.i (.v 104) (.i (.v 4) (.i (.v 5) .nil)))))))) cx hl hst hS (fun _ => rfl) (fun _ => (al1 rfl)) (code_c hK) ?_ (is_c hK) (also_c hK)
  · rw [num_3a hK T6]; rfl
theorem w1_12 (cx : Cx 1 E0 E k) : Gl 1 E0 E p1x12 := by
  intro hf
  simp only [facts_cons, p1f11, p1f10, p1f4, p1f3, p1f2, p1f1, p1f0] at hf
  obtain ⟨a0, a1, a2, a3, a4, a5, a6, a7, a8, a9, a10, a11, a12, a13, _⟩ := hf
  simp only [le_t, lt_t, eq_t, eq_f, d_c, d_v, d_bv, d_add, d_mul, d_rd, d_av, p1e3, p1e6, p1e7, p1e8, p1e9, p1e10, p1e11, p1e12] at a0 a1 a2 a3 a4 a5 a6 a7 a8 a9 a10 a11 a12 a13
  have hl : E.i 20 < E.i 0 := a13
  obtain ⟨hin, h1, h2⟩ := cx.in hl
  obtain ⟨hS, hK, hpc⟩ := sk8 (E := E) (c := 0) (kd := 3) (by omega) (by omega)
  have T6 : ((fE E).p (inpE E).S.toNat).fin = 0 := by rw [hpc]; exact b2i_z.2 a0
  have hst : stp 1 (fE E) (inpE E) = _ := stp3b hK T6
  (try rw [hpc] at hst)
  refine go8s (.i (.c 0) (.i p1e44 (.b (.c false) (.b (.c false) (.i p1e40 (.i p1e39 (.i (.v 4) (.i p1e43 .nil)))))))) cx hl hst hS (fun _ => (by (cases E; cases cx.hE; rfl))) (fun _ => (by (cases E; cases cx.hE; rfl))) (fun _ => ne1) (code_c hK) ?_ (is_c hK) (also_c hK) (by (cases E; cases cx.hE; rfl)) (by (cases E; cases cx.hE; rfl)) (by rfl) (by (cases E; cases cx.hE; rfl))
  · rw [num_3b hK T6]; (rw [hpc]; cases E; cases cx.hE; rfl)
theorem w1_13 (cx : Cx 1 E0 E k) : Gl 1 E0 E p1x13 := by
  intro hf
  simp only [facts_cons, p1f12, p1f10, p1f4, p1f3, p1f2, p1f1, p1f0] at hf
  obtain ⟨a0, a1, a2, a3, a4, a5, a6, a7, a8, a9, a10, a11, a12, a13, _⟩ := hf
  simp only [le_t, lt_t, eq_t, eq_f, d_c, d_v, d_add, d_mul, d_rd, d_av, p1e3, p1e6, p1e7, p1e8, p1e9, p1e10, p1e11, p1e12] at a0 a1 a2 a3 a4 a5 a6 a7 a8 a9 a10 a11 a12 a13
  have hl : E.i 20 < E.i 0 := a13
  obtain ⟨hin, h1, h2⟩ := cx.in hl
  obtain ⟨hS, hK, hpc⟩ := sk8 (E := E) (c := 0) (kd := 4) (by omega) (by omega)
  have hst : stp 1 (fE E) (inpE E) = _ := stp4 hK
  (try rw [hpc] at hst)
  refine go8n (.i (.c 0) (.i p1e50 (.b (.c false) (.b (.c false) (.i (.v 103) (.i (.v 104) (.i p1e49 (.i p1e48 .nil)))))))) cx hl hst hS (fun _ => (by (cases E; cases cx.hE; rfl))) (fun _ => (al1 rfl)) (code_c hK) ?_ (is_c hK) (also_c hK) (by rfl) (by rfl) (by (cases E; cases cx.hE; rfl)) (by (cases E; cases cx.hE; rfl))
  · rw [num_4 hK]; (cases E; cases cx.hE; rfl)
theorem w1_14 (cx : Cx 1 E0 E k) : Gl 1 E0 E p1x14 := by
  intro hf
  simp only [facts_cons, p1f12, p1f10, p1f4, p1f3, p1f2, p1f1, p1f0] at hf
  obtain ⟨a0, a1, a2, a3, a4, a5, a6, a7, a8, a9, a10, a11, a12, a13, a14, _⟩ := hf
  simp only [le_t, lt_t, eq_t, eq_f, d_c, d_v, d_add, d_mul, d_rd, d_av, p1e3, p1e6, p1e7, p1e8, p1e9, p1e10, p1e11, p1e12] at a0 a1 a2 a3 a4 a5 a6 a7 a8 a9 a10 a11 a12 a13 a14
  have hl : E.i 20 < E.i 0 := a14
  obtain ⟨hin, h1, h2⟩ := cx.in hl
  obtain ⟨hS, hK, hpc⟩ := sk8 (E := E) (c := 0) (kd := 5) (by omega) (by omega)
  have hst : stp 1 (fE E) (inpE E) = _ := stp5 hK
  (try rw [hpc] at hst)
  refine go8s (.i (.c 0) (.i (.c 0) (.b (.lt (.v 109) p1e25) (.b (.c false) (.i (.v 103) (.i (.v 104) (.i (.v 4) (.i (.v 5) .nil)))))))) cx hl hst hS (fun _ => rfl) (fun _ => (by (simp only [← imx_max]; rfl))) (fun _ => ne1) (code_c hK) (num_c hK) ?_ (also_c hK)
  · show b2i (((.lt (.v 109) p1e25) : SB).den E) = _
    rw [b2i_iff, is_5 hK]
    (try rw [hpc])
    simp only [pE, inpE, Nat.reduceMul, Nat.reduceAdd, d_c, d_v, d_add, d_mul, d_rd, d_av, p1e3, p1e24, p1e25, lt_t]
    (try done)
theorem w1_15 (cx : Cx 1 E0 E k) : Gl 1 E0 E p1x15 := by
  intro hf
  simp only [facts_cons, p1f13, p1f12, p1f10, p1f4, p1f3, p1f2, p1f1, p1f0] at hf
  obtain ⟨a0, a1, a2, a3, a4, a5, a6, a7, a8, a9, a10, a11, a12, a13, a14, a15, _⟩ := hf
  simp only [le_t, lt_t, eq_t, eq_f, d_c, d_v, d_add, d_mul, d_rd, d_av, p1e3, p1e6, p1e7, p1e8, p1e9, p1e10, p1e11, p1e12] at a0 a1 a2 a3 a4 a5 a6 a7 a8 a9 a10 a11 a12 a13 a14 a15
  have hl : E.i 20 < E.i 0 := a15
  obtain ⟨hin, h1, h2⟩ := cx.in hl
  obtain ⟨hS, hK, hpc⟩ := sk8 (E := E) (c := 0) (kd := 6) (by omega) (by omega)
  have hst : stp 1 (fE E) (inpE E) = _ := stp6 hK
  (try rw [hpc] at hst)
  refine go8n (.i (.c 0) (.i (.c 0) (.b (.lt (.v 10) p1e25) (.b (.c false) (.i (.v 103) (.i (.v 104) (.i (.v 4) (.i (.v 5) .nil)))))))) cx hl hst hS (fun _ => (by (simp only [← imx_max]; rfl))) (fun _ => (al1 rfl)) (code_c hK) (num_c hK) ?_ (also_c hK)
  · show b2i (((.lt (.v 10) p1e25) : SB).den E) = _
    rw [b2i_iff, is_6 hK]
    (try rw [hpc])
    simp only [fE, cE, inpE, d_c, d_v, d_add, d_mul, d_rd, d_av, p1e3, p1e24, p1e25, lt_t]
    (try done)
theorem w1_16 (cx : Cx 1 E0 E k) : Gl 1 E0 E p1x16 := by
  intro hf
  simp only [facts_cons, p1f15, p1f14, p1f13, p1f12, p1f10, p1f4, p1f3, p1f2, p1f1, p1f0] at hf
  obtain ⟨a0, a1, a2, a3, a4, a5, a6, a7, a8, a9, a10, a11, a12, a13, a14, a15, a16, a17, a18, a19, a20, _⟩ := hf
  simp only [le_t, lt_t, eq_t, eq_f, d_c, d_v, d_add, d_mul, d_rd, d_av, p1e3, p1e6, p1e7, p1e8, p1e9, p1e10, p1e11, p1e12, p1e24, p1e25, p1e56, p1e57] at a0 a1 a2 a3 a4 a5 a6 a7 a8 a9 a10 a11 a12 a13 a14 a15 a16 a17 a18 a19 a20
  have hl : E.i 20 < E.i 0 := a20
  obtain ⟨hin, h1, h2⟩ := cx.in hl
  obtain ⟨hS, hK, hpc⟩ := sk8 (E := E) (c := 0) (kd := 7) (by omega) (by omega)
  have hst : stp 1 (fE E) (inpE E) = _ := stp7 hK
  (try rw [hpc] at hst)
  exact go8s (.i (.c 0) (.i (.c 0) (.b (.c true) (.b (.c false) (.i (.v 103) (.i (.v 104) (.i (.v 4) (.i (.v 5) .nil)))))))) cx hl hst hS (fun _ => (by rfl)) (fun _ => (by rfl)) (fun _ => ne1) (code_c hK) (num_c hK) (by rw [if_pos (is_7 hK)]; rfl) (also_c hK)
theorem w1_17 (cx : Cx 1 E0 E k) : Gl 1 E0 E p1x17 := by
  intro hf
  simp only [facts_cons, p1f15, p1f14, p1f13, p1f12, p1f10, p1f4, p1f3, p1f2, p1f1, p1f0] at hf
  obtain ⟨a0, a1, a2, a3, a4, a5, a6, a7, a8, a9, a10, a11, a12, a13, a14, a15, a16, a17, a18, a19, a20, _⟩ := hf
  simp only [le_t, le_f, lt_t, eq_t, eq_f, d_c, d_v, d_add, d_mul, d_rd, d_av, p1e3, p1e6, p1e7, p1e8, p1e9, p1e10, p1e11, p1e12, p1e24, p1e25, p1e56, p1e57] at a0 a1 a2 a3 a4 a5 a6 a7 a8 a9 a10 a11 a12 a13 a14 a15 a16 a17 a18 a19 a20
  have hl : E.i 20 < E.i 0 := a20
  obtain ⟨hin, h1, h2⟩ := cx.in hl
  have hS : (E.a 0 (E.i 20 * 6 + 1).toNat).toNat = 0 := by omega
  have hK : E.a 0 (E.i 20 * 6).toNat = 7 := by omega
  simp only [okIn, inpE, hS, fE, pE, cE, Nat.reduceMul, Nat.reduceAdd] at hin
  omega
theorem w1_18 (cx : Cx 1 E0 E k) : Gl 1 E0 E p1x18 := by
  intro hf
  simp only [facts_cons, p1f15, p1f14, p1f13, p1f12, p1f10, p1f4, p1f3, p1f2, p1f1, p1f0] at hf
  obtain ⟨a0, a1, a2, a3, a4, a5, a6, a7, a8, a9, a10, a11, a12, a13, a14, a15, a16, a17, a18, a19, _⟩ := hf
  simp only [le_t, le_f, lt_t, eq_t, eq_f, d_c, d_v, d_add, d_mul, d_rd, d_av, p1e3, p1e6, p1e7, p1e8, p1e9, p1e10, p1e11, p1e12, p1e24, p1e25, p1e56] at a0 a1 a2 a3 a4 a5 a6 a7 a8 a9 a10 a11 a12 a13 a14 a15 a16 a17 a18 a19
  have hl : E.i 20 < E.i 0 := a19
  obtain ⟨hin, h1, h2⟩ := cx.in hl
  have hS : (E.a 0 (E.i 20 * 6 + 1).toNat).toNat = 0 := by omega
  have hK : E.a 0 (E.i 20 * 6).toNat = 7 := by omega
  simp only [okIn, inpE, hS, fE, pE, cE, Nat.reduceMul, Nat.reduceAdd] at hin
  omega
theorem w1_19 (cx : Cx 1 E0 E k) : Gl 1 E0 E p1x19 := by
  intro hf
  simp only [facts_cons, p1f14, p1f13, p1f12, p1f10, p1f4, p1f3, p1f2, p1f1, p1f0] at hf
  obtain ⟨a0, a1, a2, a3, a4, a5, a6, a7, a8, a9, a10, a11, a12, a13, a14, a15, a16, a17, a18, _⟩ := hf
  simp only [le_t, le_f, lt_t, eq_t, eq_f, d_c, d_v, d_add, d_mul, d_rd, d_av, p1e3, p1e6, p1e7, p1e8, p1e9, p1e10, p1e11, p1e12, p1e24, p1e25] at a0 a1 a2 a3 a4 a5 a6 a7 a8 a9 a10 a11 a12 a13 a14 a15 a16 a17 a18
  have hl : E.i 20 < E.i 0 := a18
  obtain ⟨hin, h1, h2⟩ := cx.in hl
  have hS : (E.a 0 (E.i 20 * 6 + 1).toNat).toNat = 0 := by omega
  have hK : E.a 0 (E.i 20 * 6).toNat = 7 := by omega
  simp only [okIn, inpE, hS, fE, pE, cE, Nat.reduceMul, Nat.reduceAdd] at hin
  omega
theorem w1_20 (cx : Cx 1 E0 E k) : Gl 1 E0 E p1x20 := by
  intro hf
  simp only [facts_cons, p1f14, p1f13, p1f12, p1f10, p1f4, p1f3, p1f2, p1f1, p1f0] at hf
  obtain ⟨a0, a1, a2, a3, a4, a5, a6, a7, a8, a9, a10, a11, a12, a13, a14, a15, a16, a17, _⟩ := hf
  simp only [le_t, le_f, lt_t, eq_t, eq_f, d_c, d_v, d_add, d_mul, d_rd, d_av, p1e3, p1e6, p1e7, p1e8, p1e9, p1e10, p1e11, p1e12, p1e24, p1e25] at a0 a1 a2 a3 a4 a5 a6 a7 a8 a9 a10 a11 a12 a13 a14 a15 a16 a17
  have hl : E.i 20 < E.i 0 := a17
  obtain ⟨hin, h1, h2⟩ := cx.in hl
  have hS : (E.a 0 (E.i 20 * 6 + 1).toNat).toNat = 0 := by omega
  have hK : E.a 0 (E.i 20 * 6).toNat = 7 := by omega
  simp only [okIn, inpE, hS, fE, pE, cE, Nat.reduceMul, Nat.reduceAdd] at hin
  omega
theorem w1_21 (cx : Cx 1 E0 E k) : Gl 1 E0 E p1x21 := by
  intro hf
  simp only [facts_cons, p1f16, p1f13, p1f12, p1f10, p1f4, p1f3, p1f2, p1f1, p1f0] at hf
  obtain ⟨a0, a1, a2, a3, a4, a5, a6, a7, a8, a9, a10, a11, a12, a13, a14, a15, a16, a17, _⟩ := hf
  simp only [le_t, lt_t, eq_t, eq_f, d_c, d_v, d_add, d_mul, d_rd, d_av, p1e3, p1e6, p1e7, p1e8, p1e9, p1e10, p1e11, p1e12] at a0 a1 a2 a3 a4 a5 a6 a7 a8 a9 a10 a11 a12 a13 a14 a15 a16 a17
  have hl : E.i 20 < E.i 0 := a17
  obtain ⟨hin, h1, h2⟩ := cx.in hl
  obtain ⟨hS, hK, hpc⟩ := sk8 (E := E) (c := 0) (kd := 8) (by omega) (by omega)
  have hst : stp 1 (fE E) (inpE E) = _ := stp8 hK
  (try rw [hpc] at hst)
  refine go8n (.i (.c 0) (.i p1e61 (.b (.c false) (.b (.c false) (.i (.v 103) (.i (.v 104) (.i (.v 4) (.i (.v 5) .nil)))))))) cx hl hst hS (fun _ => rfl) (fun _ => (al1 rfl)) (code_c hK) ?_ (is_c hK) (also_c hK)
  · rw [num_8 hK]; (show (p1e61 : SE).den E = _; rw [hpc]; (simp only [fE, cE, pE, Nat.reduceMul, Nat.reduceAdd, d_v, d_sub, d_mn, p1e59, p1e60, p1e61, imn_min]; done))
theorem w1_22 (cx : Cx 1 E0 E k) : Gl 1 E0 E p1x22 := by
  intro hf
  simp only [facts_cons, p1f16, p1f13, p1f12, p1f10, p1f4, p1f3, p1f2, p1f1, p1f0] at hf
  obtain ⟨a0, a1, a2, a3, a4, a5, a6, a7, a8, a9, a10, a11, a12, a13, a14, a15, a16, a17, a18, _⟩ := hf
  simp only [le_t, lt_t, eq_t, eq_f, d_c, d_v, d_add, d_mul, d_rd, d_av, p1e3, p1e6, p1e7, p1e8, p1e9, p1e10, p1e11, p1e12] at a0 a1 a2 a3 a4 a5 a6 a7 a8 a9 a10 a11 a12 a13 a14 a15 a16 a17 a18
  have hl : E.i 20 < E.i 0 := a18
  obtain ⟨hin, h1, h2⟩ := cx.in hl
  obtain ⟨hS, hK, hpc⟩ := sk8 (E := E) (c := 0) (kd := 9) (by omega) (by omega)
  have hst : stp 1 (fE E) (inpE E) = _ := stp9 hK
  (try rw [hpc] at hst)
  refine go8s (.i (.c 0) (.i (.c 0) (.b (.and (.not (.lt (.v 108) (.v 109))) (.not (.eq (.v 109) (.v 110)))) (.b (.c false) (.i (.v 103) (.i (.v 104) (.i (.v 4) (.i (.v 5) .nil)))))))) cx hl hst hS (fun _ => rfl) (fun _ => (by (show (⟨((.v 101) : SE).den E, ((.v 102) : SE).den E, ((.v 103) : SE).den E, ((.v 104) : SE).den E, ((.v 105) : SE).den E, ((.v 106) : SE).den E, ((.v 107) : SE).den E, ((.v 108) : SE).den E, ((.v 109) : SE).den E, (p1e63 : SE).den E, b2i (((.v 2) : SB).den E), 0⟩ : P1) = _; (simp only [blkP, pE, Nat.reduceMul, Nat.reduceAdd, d_v, d_bv, d_ite, p1e63, ite_lt]; rfl)))) (fun _ => ne1) (code_c hK) (num_c hK) ?_ (also_c hK)
  · show b2i (((.and (.not (.lt (.v 108) (.v 109))) (.not (.eq (.v 109) (.v 110)))) : SB).den E) = _
    rw [b2i_iff, is_9 hK]
    (try rw [hpc])
    simp only [newB, pE, Nat.reduceMul, Nat.reduceAdd, Int.not_lt, d_v, and_t, not_t, lt_f, eq_f, ne_eq]
    (try done)
theorem w1_23 (cx : Cx 1 E0 E k) : Gl 1 E0 E p1x23 := by
  intro hf
  simp only [facts_cons, p1f17, p1f16, p1f13, p1f12, p1f10, p1f4, p1f3, p1f2, p1f1, p1f0] at hf
  obtain ⟨a0, a1, a2, a3, a4, a5, a6, a7, a8, a9, a10, a11, a12, a13, a14, a15, a16, a17, a18, a19, _⟩ := hf
  simp only [le_t, lt_t, eq_t, eq_f, d_c, d_v, d_add, d_mul, d_rd, d_av, p1e3, p1e6, p1e7, p1e8, p1e9, p1e10, p1e11, p1e12] at a0 a1 a2 a3 a4 a5 a6 a7 a8 a9 a10 a11 a12 a13 a14 a15 a16 a17 a18 a19
  have hl : E.i 20 < E.i 0 := a19
  obtain ⟨hin, h1, h2⟩ := cx.in hl
  obtain ⟨hS, hK, hpc⟩ := sk8 (E := E) (c := 0) (kd := 10) (by omega) (by omega)
  have hst : stp 1 (fE E) (inpE E) = _ := stp10 hK
  (try rw [hpc] at hst)
  refine go8n (.i (.c 0) (.i p1e66 (.b (.and (.not (.lt (.v 9) (.v 10))) (.not (.eq (.v 10) (.v 11)))) (.b (.c false) (.i (.v 103) (.i (.v 104) (.i (.v 4) (.i (.v 5) .nil)))))))) cx hl hst hS (fun _ => (by (show (⟨((.v 2) : SE).den E, ((.v 3) : SE).den E, ((.v 4) : SE).den E, ((.v 5) : SE).den E, ((.v 6) : SE).den E, ((.v 7) : SE).den E, ((.v 8) : SE).den E, ((.v 9) : SE).den E, ((.v 10) : SE).den E, (p1e65 : SE).den E, 0, 0⟩ : P1) = _; (simp only [blkP, fE, cE, d_v, d_ite, p1e65, ite_lt]; rfl)))) (fun _ => (al1 rfl)) (code_c hK) ?_ ?_ (also_c hK)
  · rw [num_10 hK]; (show (p1e66 : SE).den E = _; simp only [newB, fE, cE, Int.not_lt, d_c, d_v, d_ite, p1e66, and_t, not_t, lt_f, eq_f, ne_eq]; done)
  · show b2i (((.and (.not (.lt (.v 9) (.v 10))) (.not (.eq (.v 10) (.v 11)))) : SB).den E) = _
    rw [b2i_iff, is_10 hK]
    (try rw [hpc])
    simp only [newB, fE, cE, Int.not_lt, d_v, and_t, not_t, lt_f, eq_f, ne_eq]
    (try done)
theorem w1_24 (cx : Cx 1 E0 E k) : Gl 1 E0 E p1x24 := by
  intro hf
  simp only [facts_cons, p1f19, p1f18, p1f17, p1f16, p1f13, p1f12, p1f10, p1f4, p1f3, p1f2, p1f1, p1f0] at hf
  obtain ⟨a0, a1, a2, a3, a4, a5, a6, a7, a8, a9, a10, a11, a12, a13, a14, a15, a16, a17, a18, a19, a20, a21, a22, a23, _⟩ := hf
  simp only [le_t, lt_t, eq_t, eq_f, d_c, d_v, d_bv, d_add, d_mul, d_rd, d_av, p1e3, p1e6, p1e7, p1e8, p1e9, p1e10, p1e11, p1e12, p1e24, p1e25] at a0 a1 a2 a3 a4 a5 a6 a7 a8 a9 a10 a11 a12 a13 a14 a15 a16 a17 a18 a19 a20 a21 a22 a23
  have hl : E.i 20 < E.i 0 := a23
  obtain ⟨hin, h1, h2⟩ := cx.in hl
  have hS : (E.a 0 (E.i 20 * 6 + 1).toNat).toNat = 0 := by omega
  have hK : E.a 0 (E.i 20 * 6).toNat = 11 := by omega
  simp only [okIn, inpE, hS, fE, pE, cE, Nat.reduceMul, Nat.reduceAdd] at hin
  (cases hb : E.b 1 <;> simp only [hb, b2i, Bool.false_eq_true, ↓reduceIte] at a0 hin <;> omega)
theorem w1_25 (cx : Cx 1 E0 E k) : Gl 1 E0 E p1x25 := by
  intro hf
  simp only [facts_cons, p1f19, p1f18, p1f17, p1f16, p1f13, p1f12, p1f10, p1f4, p1f3, p1f2, p1f1, p1f0] at hf
  obtain ⟨a0, a1, a2, a3, a4, a5, a6, a7, a8, a9, a10, a11, a12, a13, a14, a15, a16, a17, a18, a19, a20, a21, a22, a23, _⟩ := hf
  simp only [le_t, lt_t, eq_t, eq_f, d_c, d_v, d_bv, d_add, d_mul, d_rd, d_av, p1e3, p1e6, p1e7, p1e8, p1e9, p1e10, p1e11, p1e12, p1e24, p1e25] at a0 a1 a2 a3 a4 a5 a6 a7 a8 a9 a10 a11 a12 a13 a14 a15 a16 a17 a18 a19 a20 a21 a22 a23
  have hl : E.i 20 < E.i 0 := a23
  obtain ⟨hin, h1, h2⟩ := cx.in hl
  obtain ⟨hS, hK, hpc⟩ := sk8 (E := E) (c := 0) (kd := 11) (by omega) (by omega)
  have hst : stp 1 (fE E) (inpE E) = _ := stp11 hK
  (try rw [hpc] at hst)
  exact go8n (.i (.c 0) (.i (.c 0) (.b (.c false) (.b (.c false) (.i (.v 103) (.i (.v 104) (.i (.v 4) (.i (.v 5) .nil)))))))) cx hl hst hS (fun _ => rfl) (fun _ => (al1 rfl)) (code_c hK) (num_c hK) (is_c hK) (also_c hK)
theorem w1_26 (cx : Cx 1 E0 E k) : Gl 1 E0 E p1x26 := by
  intro hf
  simp only [facts_cons, p1f18, p1f17, p1f16, p1f13, p1f12, p1f10, p1f4, p1f3, p1f2, p1f1, p1f0] at hf
  obtain ⟨a0, a1, a2, a3, a4, a5, a6, a7, a8, a9, a10, a11, a12, a13, a14, a15, a16, a17, a18, a19, a20, a21, a22, _⟩ := hf
  simp only [le_t, le_f, lt_t, eq_t, eq_f, d_c, d_v, d_add, d_mul, d_rd, d_av, p1e3, p1e6, p1e7, p1e8, p1e9, p1e10, p1e11, p1e12, p1e24, p1e25] at a0 a1 a2 a3 a4 a5 a6 a7 a8 a9 a10 a11 a12 a13 a14 a15 a16 a17 a18 a19 a20 a21 a22
  have hl : E.i 20 < E.i 0 := a22
  obtain ⟨hin, h1, h2⟩ := cx.in hl
  have hS : (E.a 0 (E.i 20 * 6 + 1).toNat).toNat = 0 := by omega
  have hK : E.a 0 (E.i 20 * 6).toNat = 11 := by omega
  simp only [okIn, inpE, hS, fE, pE, cE, Nat.reduceMul, Nat.reduceAdd] at hin
  omega
theorem w1_27 (cx : Cx 1 E0 E k) : Gl 1 E0 E p1x27 := by
  intro hf
  simp only [facts_cons, p1f18, p1f17, p1f16, p1f13, p1f12, p1f10, p1f4, p1f3, p1f2, p1f1, p1f0] at hf
  obtain ⟨a0, a1, a2, a3, a4, a5, a6, a7, a8, a9, a10, a11, a12, a13, a14, a15, a16, a17, a18, a19, a20, a21, _⟩ := hf
  simp only [le_t, le_f, lt_t, eq_t, eq_f, d_c, d_v, d_add, d_mul, d_rd, d_av, p1e3, p1e6, p1e7, p1e8, p1e9, p1e10, p1e11, p1e12, p1e24, p1e25] at a0 a1 a2 a3 a4 a5 a6 a7 a8 a9 a10 a11 a12 a13 a14 a15 a16 a17 a18 a19 a20 a21
  have hl : E.i 20 < E.i 0 := a21
  obtain ⟨hin, h1, h2⟩ := cx.in hl
  have hS : (E.a 0 (E.i 20 * 6 + 1).toNat).toNat = 0 := by omega
  have hK : E.a 0 (E.i 20 * 6).toNat = 11 := by omega
  simp only [okIn, inpE, hS, fE, pE, cE, Nat.reduceMul, Nat.reduceAdd] at hin
  omega
theorem w1_28 (cx : Cx 1 E0 E k) : Gl 1 E0 E p1x28 := by
  intro hf
  simp only [facts_cons, p1f17, p1f16, p1f13, p1f12, p1f10, p1f4, p1f3, p1f2, p1f1, p1f0] at hf
  obtain ⟨a0, a1, a2, a3, a4, a5, a6, a7, a8, a9, a10, a11, a12, a13, a14, a15, a16, a17, a18, a19, a20, _⟩ := hf
  simp only [le_t, lt_t, eq_f, d_c, d_v, d_add, d_mul, d_rd, d_av, p1e3, p1e6, p1e7, p1e8, p1e9, p1e10, p1e11, p1e12] at a0 a1 a2 a3 a4 a5 a6 a7 a8 a9 a10 a11 a12 a13 a14 a15 a16 a17 a18 a19 a20
  have hl : E.i 20 < E.i 0 := a20
  obtain ⟨hin, h1, h2⟩ := cx.in hl
  exfalso; omega
theorem w1_29 (cx : Cx 1 E0 E k) : Gl 1 E0 E p1x29 := by
  intro hf
  simp only [facts_cons, p1f3, p1f2, p1f1, p1f0] at hf
  obtain ⟨a0, a1, a2, a3, a4, a5, a6, a7, a8, _⟩ := hf
  simp only [le_t, le_f, lt_t, d_c, d_v, d_add, d_mul, d_rd, d_av, p1e3, p1e6, p1e7, p1e8, p1e9, p1e10, p1e11, p1e12] at a0 a1 a2 a3 a4 a5 a6 a7 a8
  have hl : E.i 20 < E.i 0 := a8
  obtain ⟨hin, h1, h2⟩ := cx.in hl
  simp only [okIn, inpE] at hin
  omega
theorem w1_30 (cx : Cx 1 E0 E k) : Gl 1 E0 E p1x30 := by
  intro hf
  simp only [facts_cons, p1f2, p1f1, p1f0] at hf
  obtain ⟨a0, a1, a2, a3, a4, a5, a6, a7, _⟩ := hf
  simp only [le_t, le_f, lt_t, d_c, d_v, d_add, d_mul, d_rd, d_av, p1e3, p1e6, p1e7, p1e8, p1e9, p1e10, p1e11, p1e12] at a0 a1 a2 a3 a4 a5 a6 a7
  have hl : E.i 20 < E.i 0 := a7
  obtain ⟨hin, h1, h2⟩ := cx.in hl
  simp only [okIn, inpE] at hin
  omega
theorem w1_31 (cx : Cx 1 E0 E k) : Gl 1 E0 E p1x31 := by
  intro hf
  simp only [facts_cons, p1f2, p1f1, p1f0] at hf
  obtain ⟨a0, a1, a2, a3, a4, a5, a6, _⟩ := hf
  simp only [le_t, le_f, lt_t, d_c, d_v, d_add, d_mul, d_rd, d_av, p1e3, p1e6, p1e7, p1e8, p1e11, p1e12] at a0 a1 a2 a3 a4 a5 a6
  have hl : E.i 20 < E.i 0 := a6
  obtain ⟨hin, h1, h2⟩ := cx.in hl
  simp only [okIn, inpE] at hin
  omega
theorem w1_32 (cx : Cx 1 E0 E k) : Gl 1 E0 E p1x32 := by
  intro hf
  simp only [facts_cons, p1f1, p1f0] at hf
  obtain ⟨a0, a1, a2, a3, a4, a5, _⟩ := hf
  simp only [le_t, le_f, lt_t, d_c, d_v, d_add, d_mul, d_rd, d_av, p1e3, p1e6, p1e7, p1e8, p1e11, p1e12] at a0 a1 a2 a3 a4 a5
  have hl : E.i 20 < E.i 0 := a5
  obtain ⟨hin, h1, h2⟩ := cx.in hl
  simp only [okIn, inpE] at hin
  omega
theorem w1_33 (cx : Cx 1 E0 E k) : Gl 1 E0 E p1x33 := by
  intro hf
  simp only [facts_cons, p1f1, p1f0] at hf
  obtain ⟨a0, a1, a2, a3, a4, _⟩ := hf
  simp only [le_t, le_f, lt_t, d_c, d_v, d_add, d_mul, d_rd, d_av, p1e3, p1e8, p1e11, p1e12] at a0 a1 a2 a3 a4
  have hl : E.i 20 < E.i 0 := a4
  obtain ⟨hin, h1, h2⟩ := cx.in hl
  simp only [okIn, inpE] at hin
  omega
theorem w1_34 (cx : Cx 1 E0 E k) : Gl 1 E0 E p1x34 := by
  intro hf
  simp only [facts_cons, p1f0] at hf
  obtain ⟨a0, a1, a2, a3, _⟩ := hf
  simp only [le_t, le_f, lt_t, d_c, d_v, d_add, d_mul, d_rd, d_av, p1e3, p1e8, p1e11, p1e12] at a0 a1 a2 a3
  have hl : E.i 20 < E.i 0 := a3
  obtain ⟨hin, h1, h2⟩ := cx.in hl
  simp only [okIn, inpE] at hin
  omega
theorem w1_35 (cx : Cx 1 E0 E k) : Gl 1 E0 E p1x35 := by
  intro hf
  simp only [facts_cons, p1f0] at hf
  obtain ⟨a0, a1, a2, _⟩ := hf
  simp only [le_t, le_f, lt_t, d_c, d_v, d_mul, d_rd, d_av, p1e3, p1e8] at a0 a1 a2
  have hl : E.i 20 < E.i 0 := a2
  obtain ⟨hin, h1, h2⟩ := cx.in hl
  simp only [okIn, inpE] at hin
  omega
theorem w1_36 (cx : Cx 1 E0 E k) : Gl 1 E0 E p1x36 := by
  intro hf
  simp only [facts_cons] at hf
  obtain ⟨a0, a1, _⟩ := hf
  simp only [le_f, lt_t, d_c, d_v, d_mul, d_rd, d_av, p1e3, p1e8] at a0 a1
  have hl : E.i 20 < E.i 0 := a1
  obtain ⟨hin, h1, h2⟩ := cx.in hl
  simp only [okIn, inpE] at hin
  omega
theorem w1_37 (cx : Cx 1 E0 E k) : Gl 1 E0 E p1x37 := by
  intro hf
  have hn := (fat hf 0 rfl)
  simp only [lt_f, d_v] at hn
  exact ⟨rfl, out8 cx hn⟩
theorem ct8_1 : CtOk Tryd.prog fns (ct8 1) := by
  refine ct_of_pts (p := prm8 1 Tryd.prog) (pts := pts8 1 Tryd.prog) (n := 1200) (c0 := enterD (prm8 1 Tryd.prog) (ct8 1)) (fun E hE => prm8_ok 1 E hE) rfl (by intro q hq; cases hq) Tryd.func8 (by kernel_rfl) ?_ (J8 1) mu8 a1ls a1run ?_ ?_
  · intro t ht
    simp only [pts8, List.mem_cons, List.not_mem_nil, or_false] at ht
    subst ht
    exact ⟨by kernel_rfl, by decide⟩
  · intro E hE hF
    obtain ⟨b1, b2, hst⟩ := pre8 hE hF
    refine ⟨noFacts (by simp [ct8]), fun x hx => ?_⟩
    unfold a1ls at hx
    simp only [List.mem_cons, List.not_mem_nil, or_false] at hx
    subst hx
    intro hf
    refine ⟨⟨_, rfl, .inl ⟨rfl, rfl⟩⟩, fun o => ⟨⟨0, ⟨rfl, rfl, b1.1, rfl, rfl, ⟨?_, fun i hi => ?_, rfl, rfl⟩, fun j hj => by omega⟩⟩, fun b hb => by cases hb⟩⟩
    · show (⟨0, 0, E.i 12, E.i 12, E.i 13, 0, 0, 0, imx 0 (E.i 14), 0, 0, 0⟩ : P1) = _
      rw [imx_max]; rfl
    · have hi3 : i = 0 := by omega
      rcases hi3 with rfl
      all_goals rfl
  · intro k t ht
    have hk : k = 0 := by
      have := (List.getElem?_eq_some_iff.1 ht).1
      simp [pts8] at this; omega
    subst hk
    refine ⟨p1ls, by rw [← ptD_some ht (ct8 1).g]; exact p1run, fun E0 E hE0 hE hF0 ⟨i, hI⟩ => ?_⟩
    obtain ⟨b1, b2, hst⟩ := pre8 hE0 hF0
    have hle := hI.le; have h0 := hI.h0; have h20 := hI.h20
    obtain ⟨g1, g2, g3⟩ := good8 hI hst
    refine ⟨?_, fun x hx => ?_⟩
    · obtain rfl := Option.some.inj ht
      have u0 := g2 0 (by omega)
      simp only [okP, fE, cE, pE] at g1 g3 u0
      simp only [strR, conF, rttF, bd, List.range, List.range.loop, List.map_cons, List.map_nil, List.flatten_cons, List.flatten_nil, List.cons_append, List.nil_append, List.append_nil, facts_cons, facts_nil, le_t, d_c, d_v, and_true]
      omega
    · unfold p1ls at hx
      simp only [List.mem_cons, List.not_mem_nil, or_false] at hx
      rcases hx with rfl | rfl | rfl | rfl | rfl | rfl | rfl | rfl | rfl | rfl | rfl | rfl | rfl | rfl | rfl | rfl | rfl | rfl | rfl | rfl | rfl | rfl | rfl | rfl | rfl | rfl | rfl | rfl | rfl | rfl | rfl | rfl | rfl | rfl | rfl | rfl | rfl | rfl
      · exact w1_0 ⟨hE0, hE, hI, hst⟩
      · exact w1_1 ⟨hE0, hE, hI, hst⟩
      · exact w1_2 ⟨hE0, hE, hI, hst⟩
      · exact w1_3 ⟨hE0, hE, hI, hst⟩
      · exact w1_4 ⟨hE0, hE, hI, hst⟩
      · exact w1_5 ⟨hE0, hE, hI, hst⟩
      · exact w1_6 ⟨hE0, hE, hI, hst⟩
      · exact w1_7 ⟨hE0, hE, hI, hst⟩
      · exact w1_8 ⟨hE0, hE, hI, hst⟩
      · exact w1_9 ⟨hE0, hE, hI, hst⟩
      · exact w1_10 ⟨hE0, hE, hI, hst⟩
      · exact w1_11 ⟨hE0, hE, hI, hst⟩
      · exact w1_12 ⟨hE0, hE, hI, hst⟩
      · exact w1_13 ⟨hE0, hE, hI, hst⟩
      · exact w1_14 ⟨hE0, hE, hI, hst⟩
      · exact w1_15 ⟨hE0, hE, hI, hst⟩
      · exact w1_16 ⟨hE0, hE, hI, hst⟩
      · exact w1_17 ⟨hE0, hE, hI, hst⟩
      · exact w1_18 ⟨hE0, hE, hI, hst⟩
      · exact w1_19 ⟨hE0, hE, hI, hst⟩
      · exact w1_20 ⟨hE0, hE, hI, hst⟩
      · exact w1_21 ⟨hE0, hE, hI, hst⟩
      · exact w1_22 ⟨hE0, hE, hI, hst⟩
      · exact w1_23 ⟨hE0, hE, hI, hst⟩
      · exact w1_24 ⟨hE0, hE, hI, hst⟩
      · exact w1_25 ⟨hE0, hE, hI, hst⟩
      · exact w1_26 ⟨hE0, hE, hI, hst⟩
      · exact w1_27 ⟨hE0, hE, hI, hst⟩
      · exact w1_28 ⟨hE0, hE, hI, hst⟩
      · exact w1_29 ⟨hE0, hE, hI, hst⟩
      · exact w1_30 ⟨hE0, hE, hI, hst⟩
      · exact w1_31 ⟨hE0, hE, hI, hst⟩
      · exact w1_32 ⟨hE0, hE, hI, hst⟩
      · exact w1_33 ⟨hE0, hE, hI, hst⟩
      · exact w1_34 ⟨hE0, hE, hI, hst⟩
      · exact w1_35 ⟨hE0, hE, hI, hst⟩
      · exact w1_36 ⟨hE0, hE, hI, hst⟩
      · exact w1_37 ⟨hE0, hE, hI, hst⟩
end Go.Proofs.YtpjifimjoinnnaaDoor
