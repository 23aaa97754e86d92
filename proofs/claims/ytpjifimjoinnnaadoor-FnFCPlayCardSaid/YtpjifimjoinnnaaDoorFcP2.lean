/- Ways of the play with 2 streams. -/
import Derived.Test.YtpjifimjoinnnaaDoorFcI
import Derived.Test.YtpjifimjoinnnaaDoorFcQ2
import Derived.KernelRfl
set_option autoImplicit true
set_option relaxedAutoImplicit true
set_option linter.unusedVariables false
set_option linter.unusedSimpArgs false
set_option maxRecDepth 100000
set_option maxHeartbeats 4000000
namespace Go.Proofs.YtpjifimjoinnnaaDoor
open Go Go.Sy Go.RowKit
variable {E0 E : Env} {k : Nat}
theorem w2_0 (cx : Cx 2 E0 E k) : Gl 2 E0 E p2x0 := by
  intro hf
  simp only [facts_cons, p2f5, p2f4, p2f3, p2f2, p2f1, p2f0] at hf
  obtain ⟨a0, a1, a2, a3, a4, a5, a6, a7, a8, a9, a10, a11, _⟩ := hf
  simp only [and_t, not_t, le_t, lt_t, eq_t, eq_f, d_c, d_v, d_bv, d_add, d_mul, d_rd, d_av, p2e3, p2e4, p2e5, p2e6, p2e7, p2e8, p2e9, p2e10, p2e11, p2e12] at a0 a1 a2 a3 a4 a5 a6 a7 a8 a9 a10 a11
  have hl : E.i 20 < E.i 0 := a11
  obtain ⟨hin, h1, h2⟩ := cx.in hl
  obtain ⟨hS, hK, hpc⟩ := sk8 (E := E) (c := 0) (kd := 0) (by omega) (by omega)
  obtain ⟨A6, A7, A3, A4⟩ := aa0 hpc
  have T6 := A6.2 (by exact .inl a0)
  have hst : stp 1 (fE E) (inpE E) = _ := stp0a hK T6
  (try rw [hpc] at hst)
  exact go8n (.i (.c 6) (.i (.c 0) (.b (.c false) (.b (.c false) (.i (.v 103) (.i (.v 104) (.i (.v 4) (.i (.v 5) .nil)))))))) cx hl hst hS (fun _ => rfl) (fun _ => (al2 rfl rfl)) (code_6 hK (.inl T6)).symm (num_c hK) (is_c hK) (also_c hK)
theorem w2_1 (cx : Cx 2 E0 E k) : Gl 2 E0 E p2x1 := by
  intro hf
  simp only [facts_cons, p2f6, p2f5, p2f4, p2f3, p2f2, p2f1, p2f0] at hf
  obtain ⟨a0, a1, a2, a3, a4, a5, a6, a7, a8, a9, a10, a11, a12, _⟩ := hf
  simp only [and_t, and_f, not_t, le_t, lt_t, eq_t, eq_f, d_c, d_v, d_bv, d_add, d_mul, d_rd, d_av, p2e3, p2e4, p2e5, p2e6, p2e7, p2e8, p2e9, p2e10, p2e11, p2e12] at a0 a1 a2 a3 a4 a5 a6 a7 a8 a9 a10 a11 a12
  have hl : E.i 20 < E.i 0 := a12
  obtain ⟨hin, h1, h2⟩ := cx.in hl
  obtain ⟨hS, hK, hpc⟩ := sk8 (E := E) (c := 0) (kd := 0) (by omega) (by omega)
  obtain ⟨A6, A7, A3, A4⟩ := aa0 hpc
  have T6 := A6.2 (by exact .inr a0)
  have hst : stp 1 (fE E) (inpE E) = _ := stp0a hK T6
  (try rw [hpc] at hst)
  exact go8n (.i (.c 6) (.i (.c 0) (.b (.c false) (.b (.c false) (.i (.v 103) (.i (.v 104) (.i (.v 4) (.i (.v 5) .nil)))))))) cx hl hst hS (fun _ => rfl) (fun _ => (al2 rfl rfl)) (code_6 hK (.inl T6)).symm (num_c hK) (is_c hK) (also_c hK)
theorem w2_2 (cx : Cx 2 E0 E k) : Gl 2 E0 E p2x2 := by
  intro hf
  simp only [facts_cons, p2f7, p2f6, p2f5, p2f4, p2f3, p2f2, p2f1, p2f0] at hf
  obtain ⟨a0, a1, a2, a3, a4, a5, a6, a7, a8, a9, a10, a11, a12, a13, _⟩ := hf
  simp only [and_t, and_f, not_t, le_t, lt_t, eq_t, eq_f, d_c, d_v, d_bv, d_add, d_mul, d_rd, d_av, p2e3, p2e4, p2e5, p2e6, p2e7, p2e8, p2e9, p2e10, p2e11, p2e12] at a0 a1 a2 a3 a4 a5 a6 a7 a8 a9 a10 a11 a12 a13
  have hl : E.i 20 < E.i 0 := a13
  obtain ⟨hin, h1, h2⟩ := cx.in hl
  obtain ⟨hS, hK, hpc⟩ := sk8 (E := E) (c := 0) (kd := 0) (by omega) (by omega)
  obtain ⟨A6, A7, A3, A4⟩ := aa0 hpc
  have F6 : ¬ _ := (fun h => by have h := A6.1 h; cases hb : E.b 2 <;> simp only [hb, Bool.false_eq_true, false_and, or_false, true_and, ne_eq] at h a1 a2 <;> omega)
  have T7 := A7.2 (by exact a0)
  have hst : stp 1 (fE E) (inpE E) = _ := stp0b hK F6 T7
  (try rw [hpc] at hst)
  exact go8s (.i (.c 6) (.i (.c 0) (.b (.c false) (.b (.c false) (.i (.v 103) (.i (.v 104) (.i (.v 4) (.i (.v 5) .nil)))))))) cx hl hst hS (fun _ => rfl) (fun _ => (by rfl)) (fun _ => (ne2a rfl)) (code_6 hK (.inr T7)).symm (num_c hK) (is_c hK) (also_c hK)
theorem w2_3 (cx : Cx 2 E0 E k) : Gl 2 E0 E p2x3 := by
  intro hf
  simp only [facts_cons, p2f8, p2f7, p2f6, p2f5, p2f4, p2f3, p2f2, p2f1, p2f0] at hf
  obtain ⟨a0, a1, a2, a3, a4, a5, a6, a7, a8, a9, a10, a11, a12, a13, a14, _⟩ := hf
  simp only [and_t, and_f, not_t, le_t, lt_t, eq_t, eq_f, d_c, d_v, d_bv, d_add, d_mul, d_rd, d_av, p2e3, p2e4, p2e5, p2e6, p2e7, p2e8, p2e9, p2e10, p2e11, p2e12] at a0 a1 a2 a3 a4 a5 a6 a7 a8 a9 a10 a11 a12 a13 a14
  have hl : E.i 20 < E.i 0 := a14
  obtain ⟨hin, h1, h2⟩ := cx.in hl
  obtain ⟨hS, hK, hpc⟩ := sk8 (E := E) (c := 0) (kd := 0) (by omega) (by omega)
  obtain ⟨A6, A7, A3, A4⟩ := aa0 hpc
  have F6 : ¬ _ := (fun h => by have h := A6.1 h; cases hb : E.b 2 <;> simp only [hb, Bool.false_eq_true, false_and, or_false, true_and, ne_eq] at h a2 a3 <;> omega)
  have F7 : ¬ _ := (fun h => by have h := A7.1 h; omega)
  have T3 := A3.2 (by exact a0)
  have hst : stp 1 (fE E) (inpE E) = _ := stp0c hK F6 F7 T3
  (try rw [hpc] at hst)
  exact go8s (.i (.c 3) (.i (.c 0) (.b (.c false) (.b (.c false) (.i (.v 103) (.i (.v 104) (.i (.v 4) (.i (.v 5) .nil)))))))) cx hl hst hS (fun _ => rfl) (fun _ => (by (show (⟨(p2e16 : SE).den E, ((.v 102) : SE).den E, ((.v 103) : SE).den E, ((.v 104) : SE).den E, ((.v 105) : SE).den E, (p2e15 : SE).den E, (p2e14 : SE).den E, ((.v 108) : SE).den E, ((.v 109) : SE).den E, ((.v 110) : SE).den E, b2i (((.not (.and (.not (.v 2)) (.eq p2e5 (.c 0)))) : SB).den E), 0⟩ : P1) = _; (simp only [comeP, pE, inpE, Nat.reduceMul, Nat.reduceAdd, not_d, and_d, eq_d, d_c, d_v, d_ap, d_sli, d_slnil, d_bv, d_add, d_sub, d_mul, d_mx, d_rd, d_av, p2e3, p2e4, p2e5, p2e6, p2e7, p2e11, p2e12, p2e13, p2e14, p2e15, p2e16, cx.hE, f9, f10, imx_max, fin_or2]; rfl)))) (fun _ => (ne2a rfl)) (code_3 hK F6 F7 (.inl T3)).symm (num_c hK) (is_c hK) (also_c hK)
theorem w2_4 (cx : Cx 2 E0 E k) : Gl 2 E0 E p2x4 := by
  intro hf
  simp only [facts_cons, p2f9, p2f8, p2f7, p2f6, p2f5, p2f4, p2f3, p2f2, p2f1, p2f0] at hf
  obtain ⟨a0, a1, a2, a3, a4, a5, a6, a7, a8, a9, a10, a11, a12, a13, a14, a15, _⟩ := hf
  simp only [and_t, and_f, not_t, le_t, lt_t, eq_t, eq_f, d_c, d_v, d_bv, d_add, d_sub, d_mul, d_rd, d_av, p2e3, p2e4, p2e5, p2e6, p2e7, p2e8, p2e9, p2e10, p2e11, p2e12, p2e13, p2e22] at a0 a1 a2 a3 a4 a5 a6 a7 a8 a9 a10 a11 a12 a13 a14 a15
  have hl : E.i 20 < E.i 0 := a15
  obtain ⟨hin, h1, h2⟩ := cx.in hl
  obtain ⟨hS, hK, hpc⟩ := sk8 (E := E) (c := 0) (kd := 0) (by omega) (by omega)
  obtain ⟨A6, A7, A3, A4⟩ := aa0 hpc
  have F6 : ¬ _ := (fun h => by have h := A6.1 h; cases hb : E.b 2 <;> simp only [hb, Bool.false_eq_true, false_and, or_false, true_and, ne_eq] at h a3 a4 <;> omega)
  have F7 : ¬ _ := (fun h => by have h := A7.1 h; omega)
  have F3 : ¬ _ := (fun h => by have h := A3.1 h; omega)
  have T4 := A4.2 (by exact a0)
  have hst : stp 1 (fE E) (inpE E) = _ := stp0d hK F6 F7 F3
  (try rw [hpc] at hst)
  exact go8s (.i (.c 3) (.i (.c 0) (.b (.c false) (.b (.c false) (.i (.v 103) (.i (.v 104) (.i (.v 4) (.i (.v 5) .nil)))))))) cx hl hst hS (fun _ => (by (cases E; cases cx.hE; simp only [comeC, ← imx_max]; rfl))) (fun _ => (by (show (⟨(p2e16 : SE).den E, ((.v 102) : SE).den E, ((.v 103) : SE).den E, ((.v 104) : SE).den E, ((.v 105) : SE).den E, (p2e15 : SE).den E, (p2e14 : SE).den E, ((.v 108) : SE).den E, ((.v 109) : SE).den E, ((.v 110) : SE).den E, b2i (((.not (.and (.not (.v 2)) (.eq p2e5 (.c 0)))) : SB).den E), 0⟩ : P1) = _; (simp only [comeP, pE, inpE, Nat.reduceMul, Nat.reduceAdd, not_d, and_d, eq_d, d_c, d_v, d_ap, d_sli, d_slnil, d_bv, d_add, d_sub, d_mul, d_mx, d_rd, d_av, p2e3, p2e4, p2e5, p2e6, p2e7, p2e11, p2e12, p2e13, p2e14, p2e15, p2e16, cx.hE, f9, f10, imx_max, fin_or2]; rfl)))) (fun _ => (ne2a rfl)) (code_3 hK F6 F7 (.inr T4)).symm (num_c hK) (is_c hK) (also_c hK)
theorem w2_5 (cx : Cx 2 E0 E k) : Gl 2 E0 E p2x5 := by
  intro hf
  simp only [facts_cons, p2f9, p2f8, p2f7, p2f6, p2f5, p2f4, p2f3, p2f2, p2f1, p2f0] at hf
  obtain ⟨a0, a1, a2, a3, a4, a5, a6, a7, a8, a9, a10, a11, a12, a13, a14, a15, _⟩ := hf
  simp only [and_t, and_f, not_t, le_t, lt_t, eq_t, eq_f, d_c, d_v, d_bv, d_add, d_sub, d_mul, d_rd, d_av, p2e3, p2e4, p2e5, p2e6, p2e7, p2e8, p2e9, p2e10, p2e11, p2e12, p2e13, p2e22] at a0 a1 a2 a3 a4 a5 a6 a7 a8 a9 a10 a11 a12 a13 a14 a15
  have hl : E.i 20 < E.i 0 := a15
  obtain ⟨hin, h1, h2⟩ := cx.in hl
  obtain ⟨hS, hK, hpc⟩ := sk8 (E := E) (c := 0) (kd := 0) (by omega) (by omega)
  obtain ⟨A6, A7, A3, A4⟩ := aa0 hpc
  have F6 : ¬ _ := (fun h => by have h := A6.1 h; cases hb : E.b 2 <;> simp only [hb, Bool.false_eq_true, false_and, or_false, true_and, ne_eq] at h a3 a4 <;> omega)
  have F7 : ¬ _ := (fun h => by have h := A7.1 h; omega)
  have F3 : ¬ _ := (fun h => by have h := A3.1 h; omega)
  have F4 : ¬ _ := (fun h => by have h := A4.1 h; omega)
  have hst : stp 1 (fE E) (inpE E) = _ := stp0d hK F6 F7 F3
  (try rw [hpc] at hst)
  exact go8s (.i (.c 0) (.i (.c 0) (.b (.c false) (.b (.c false) (.i (.v 103) (.i (.v 104) (.i (.v 4) (.i (.v 5) .nil)))))))) cx hl hst hS (fun _ => (by (cases E; cases cx.hE; simp only [comeC, ← imx_max]; rfl))) (fun _ => (by (show (⟨(p2e16 : SE).den E, ((.v 102) : SE).den E, ((.v 103) : SE).den E, ((.v 104) : SE).den E, ((.v 105) : SE).den E, (p2e15 : SE).den E, (p2e14 : SE).den E, ((.v 108) : SE).den E, ((.v 109) : SE).den E, ((.v 110) : SE).den E, b2i (((.not (.and (.not (.v 2)) (.eq p2e5 (.c 0)))) : SB).den E), 0⟩ : P1) = _; (simp only [comeP, pE, inpE, Nat.reduceMul, Nat.reduceAdd, not_d, and_d, eq_d, d_c, d_v, d_ap, d_sli, d_slnil, d_bv, d_add, d_sub, d_mul, d_mx, d_rd, d_av, p2e3, p2e4, p2e5, p2e6, p2e7, p2e11, p2e12, p2e13, p2e14, p2e15, p2e16, cx.hE, f9, f10, imx_max, fin_or2]; rfl)))) (fun _ => (ne2a rfl)) (code_0 hK F6 F7 F3 F4).symm (num_c hK) (is_c hK) (also_c hK)
theorem w2_6 (cx : Cx 2 E0 E k) : Gl 2 E0 E p2x6 := by
  intro hf
  simp only [facts_cons, p2f11, p2f10, p2f4, p2f3, p2f2, p2f1, p2f0] at hf
  obtain ⟨a0, a1, a2, a3, a4, a5, a6, a7, a8, a9, a10, a11, a12, a13, _⟩ := hf
  simp only [le_t, lt_t, eq_t, eq_f, d_c, d_v, d_add, d_mul, d_rd, d_av, p2e3, p2e6, p2e7, p2e8, p2e9, p2e10, p2e11, p2e12, p2e24, p2e25] at a0 a1 a2 a3 a4 a5 a6 a7 a8 a9 a10 a11 a12 a13
  have hl : E.i 20 < E.i 0 := a13
  obtain ⟨hin, h1, h2⟩ := cx.in hl
  obtain ⟨hS, hK, hpc⟩ := sk8 (E := E) (c := 0) (kd := 1) (by omega) (by omega)
  have hst : stp 1 (fE E) (inpE E) = _ := stp1 hK
  (try rw [hpc] at hst)
  refine go8s (.i (.c 0) (.i (.c 0) (.b (.and (.not (.v 2)) (.le p2e28 p2e30)) (.b (.le p2e31 p2e33) (.i (.v 103) (.i (.v 104) (.i (.v 4) (.i (.v 5) .nil)))))))) cx hl hst hS (fun _ => (by rfl)) (fun _ => (by rfl)) (fun _ => (ne2a rfl)) (code_c hK) (num_c hK) ?_ ?_
  · show b2i (((.and (.not (.v 2)) (.le p2e28 p2e30)) : SB).den E) = _
    rw [b2i_iff, is_1 hK]
    (try rw [hpc])
    simp only [pE, inpE, Nat.reduceMul, Nat.reduceAdd, d_c, d_v, d_bv, d_add, d_sub, d_mul, d_tdiv, d_rd, d_av, p2e3, p2e24, p2e25, p2e26, p2e28, p2e29, p2e30, and_t, not_t, le_t, b2i_z, duE]
    (try (rw [tdn (by have g := (good8 cx.hI cx.hsc).2.1 0 (by omega); simp only [okP, fE, pE, Nat.reduceMul, Nat.reduceAdd] at g; omega)]))
  · show b2i (((.le p2e31 p2e33) : SB).den E) = _
    rw [b2i_iff, also_1 hK]
    simp only [fE, cE, inpE, d_c, d_v, d_add, d_sub, d_mul, d_tdiv, d_rd, d_av, p2e3, p2e24, p2e25, p2e27, p2e31, p2e32, p2e33, le_t, duE]
    (try (rw [tdn (by have g := (good8 cx.hI cx.hsc).1; simp only [okP, fE, cE] at g; omega)]))
theorem w2_7 (cx : Cx 2 E0 E k) : Gl 2 E0 E p2x7 := by
  intro hf
  simp only [facts_cons, p2f11, p2f10, p2f4, p2f3, p2f2, p2f1, p2f0] at hf
  obtain ⟨a0, a1, a2, a3, a4, a5, a6, a7, a8, a9, a10, a11, a12, a13, _⟩ := hf
  simp only [le_t, le_f, lt_t, eq_t, eq_f, d_c, d_v, d_add, d_mul, d_rd, d_av, p2e3, p2e6, p2e7, p2e8, p2e9, p2e10, p2e11, p2e12, p2e24, p2e25] at a0 a1 a2 a3 a4 a5 a6 a7 a8 a9 a10 a11 a12 a13
  have hl : E.i 20 < E.i 0 := a13
  obtain ⟨hin, h1, h2⟩ := cx.in hl
  have hS : (E.a 0 (E.i 20 * 6 + 1).toNat).toNat = 0 := by omega
  have hK : E.a 0 (E.i 20 * 6).toNat = 1 := by omega
  simp only [okIn, inpE, hS, fE, pE, cE, Nat.reduceMul, Nat.reduceAdd] at hin
  omega
theorem w2_8 (cx : Cx 2 E0 E k) : Gl 2 E0 E p2x8 := by
  intro hf
  simp only [facts_cons, p2f10, p2f4, p2f3, p2f2, p2f1, p2f0] at hf
  obtain ⟨a0, a1, a2, a3, a4, a5, a6, a7, a8, a9, a10, a11, a12, _⟩ := hf
  simp only [le_t, le_f, lt_t, eq_t, eq_f, d_c, d_v, d_add, d_mul, d_rd, d_av, p2e3, p2e6, p2e7, p2e8, p2e9, p2e10, p2e11, p2e12, p2e24, p2e25] at a0 a1 a2 a3 a4 a5 a6 a7 a8 a9 a10 a11 a12
  have hl : E.i 20 < E.i 0 := a12
  obtain ⟨hin, h1, h2⟩ := cx.in hl
  have hS : (E.a 0 (E.i 20 * 6 + 1).toNat).toNat = 0 := by omega
  have hK : E.a 0 (E.i 20 * 6).toNat = 1 := by omega
  simp only [okIn, inpE, hS, fE, pE, cE, Nat.reduceMul, Nat.reduceAdd] at hin
  omega
theorem w2_9 (cx : Cx 2 E0 E k) : Gl 2 E0 E p2x9 := by
  intro hf
  simp only [facts_cons, p2f12, p2f10, p2f4, p2f3, p2f2, p2f1, p2f0] at hf
  obtain ⟨a0, a1, a2, a3, a4, a5, a6, a7, a8, a9, a10, a11, a12, a13, _⟩ := hf
  simp only [le_t, lt_t, eq_t, eq_f, d_c, d_v, d_add, d_mul, d_rd, d_av, p2e3, p2e6, p2e7, p2e8, p2e9, p2e10, p2e11, p2e12] at a0 a1 a2 a3 a4 a5 a6 a7 a8 a9 a10 a11 a12 a13
  have hl : E.i 20 < E.i 0 := a13
  obtain ⟨hin, h1, h2⟩ := cx.in hl
  obtain ⟨hS, hK, hpc⟩ := sk8 (E := E) (c := 0) (kd := 2) (by omega) (by omega)
  have hst : stp 1 (fE E) (inpE E) = _ := stp2 hK
  (try rw [hpc] at hst)
  exact go8s (.i (.c 0) (.i (.c 0) (.b (.c false) (.b (.c false) (.i (.v 103) (.i (.v 104) (.i (.v 4) (.i (.v 5) .nil)))))))) cx hl hst hS (fun _ => (by rfl)) (fun _ => (by rfl)) (fun _ => (ne2a rfl)) (code_c hK) (num_c hK) (is_c hK) (also_c hK)
theorem w2_10 (cx : Cx 2 E0 E k) : Gl 2 E0 E p2x10 := by
  intro hf
  simp only [facts_cons, p2f12, p2f10, p2f4, p2f3, p2f2, p2f1, p2f0] at hf
  obtain ⟨a0, a1, a2, a3, a4, a5, a6, a7, a8, a9, a10, a11, a12, a13, _⟩ := hf
  simp only [le_t, le_f, lt_t, eq_t, eq_f, d_c, d_v, d_add, d_mul, d_rd, d_av, p2e3, p2e6, p2e7, p2e8, p2e9, p2e10, p2e11, p2e12] at a0 a1 a2 a3 a4 a5 a6 a7 a8 a9 a10 a11 a12 a13
  have hl : E.i 20 < E.i 0 := a13
  obtain ⟨hin, h1, h2⟩ := cx.in hl
  have hS : (E.a 0 (E.i 20 * 6 + 1).toNat).toNat = 0 := by omega
  have hK : E.a 0 (E.i 20 * 6).toNat = 2 := by omega
  simp only [okIn, inpE, hS, fE, pE, cE, Nat.reduceMul, Nat.reduceAdd] at hin
  omega
theorem w2_11 (cx : Cx 2 E0 E k) : Gl 2 E0 E p2x11 := by
  intro hf
  simp only [facts_cons, p2f13, p2f10, p2f4, p2f3, p2f2, p2f1, p2f0] at hf
  obtain ⟨a0, a1, a2, a3, a4, a5, a6, a7, a8, a9, a10, a11, a12, a13, a14, _⟩ := hf
  simp only [le_t, lt_t, eq_t, eq_f, d_c, d_v, d_bv, d_add, d_mul, d_rd, d_av, p2e3, p2e6, p2e7, p2e8, p2e9, p2e10, p2e11, p2e12] at a0 a1 a2 a3 a4 a5 a6 a7 a8 a9 a10 a11 a12 a13 a14
  have hl : E.i 20 < E.i 0 := a14
  obtain ⟨hin, h1, h2⟩ := cx.in hl
  obtain ⟨hS, hK, hpc⟩ := sk8 (E := E) (c := 0) (kd := 3) (by omega) (by omega)
  have T6 : ((fE E).p (inpE E).S.toNat).fin ≠ 0 := by rw [hpc]; exact b2i_ne.2 a0
  have hst : stp 1 (fE E) (inpE E) = _ := stp3a hK T6
  (try rw [hpc] at hst)
  refine go8n (.i (.c 0) (.i (.c 0) (.b (.c false) (.b (.c false) (.i (.v 103) (.i (.v 104) (.i (.v 4) (.i (.v 5) .nil)))))))) cx hl hst hS (fun _ => rfl) (fun _ => (al2 rfl rfl)) (code_c hK) ?_ (is_c hK) (also_c hK)
  · rw [num_3a hK T6]; rfl
theorem w2_12 (cx : Cx 2 E0 E k) : Gl 2 E0 E p2x12 := by
  intro hf
  simp only [facts_cons, p2f13, p2f10, p2f4, p2f3, p2f2, p2f1, p2f0] at hf
  obtain ⟨a0, a1, a2, a3, a4, a5, a6, a7, a8, a9, a10, a11, a12, a13, a14, _⟩ := hf
  simp only [le_t, lt_t, eq_t, eq_f, d_c, d_v, d_bv, d_add, d_mul, d_rd, d_av, p2e3, p2e6, p2e7, p2e8, p2e9, p2e10, p2e11, p2e12] at a0 a1 a2 a3 a4 a5 a6 a7 a8 a9 a10 a11 a12 a13 a14
  have hl : E.i 20 < E.i 0 := a14
  obtain ⟨hin, h1, h2⟩ := cx.in hl
  obtain ⟨hS, hK, hpc⟩ := sk8 (E := E) (c := 0) (kd := 3) (by omega) (by omega)
  have T6 : ((fE E).p (inpE E).S.toNat).fin = 0 := by rw [hpc]; exact b2i_z.2 a0
  have hst : stp 1 (fE E) (inpE E) = _ := stp3b hK T6
  (try rw [hpc] at hst)
  refine go8s (.i (.c 0) (.i p2e44 (.b (.c false) (.b (.c false) (.i p2e40 (.i p2e39 (.i (.v 4) (.i p2e43 .nil)))))))) cx hl hst hS (fun _ => (by (cases E; cases cx.hE; rfl))) (fun _ => (by (cases E; cases cx.hE; rfl))) (fun _ => (ne2a rfl)) (code_c hK) ?_ (is_c hK) (also_c hK) (by (cases E; cases cx.hE; rfl)) (by (cases E; cases cx.hE; rfl)) (by rfl) (by (cases E; cases cx.hE; rfl))
  · rw [num_3b hK T6]; (rw [hpc]; cases E; cases cx.hE; rfl)
theorem w2_13 (cx : Cx 2 E0 E k) : Gl 2 E0 E p2x13 := by
  intro hf
  simp only [facts_cons, p2f13, p2f10, p2f4, p2f3, p2f2, p2f1, p2f0] at hf
  obtain ⟨a0, a1, a2, a3, a4, a5, a6, a7, a8, a9, a10, a11, a12, a13, a14, _⟩ := hf
  simp only [le_t, lt_t, eq_t, eq_f, d_c, d_v, d_add, d_mul, d_rd, d_av, p2e3, p2e6, p2e7, p2e8, p2e9, p2e10, p2e11, p2e12] at a0 a1 a2 a3 a4 a5 a6 a7 a8 a9 a10 a11 a12 a13 a14
  have hl : E.i 20 < E.i 0 := a14
  obtain ⟨hin, h1, h2⟩ := cx.in hl
  obtain ⟨hS, hK, hpc⟩ := sk8 (E := E) (c := 0) (kd := 4) (by omega) (by omega)
  have hst : stp 1 (fE E) (inpE E) = _ := stp4 hK
  (try rw [hpc] at hst)
  refine go8n (.i (.c 0) (.i p2e50 (.b (.c false) (.b (.c false) (.i (.v 103) (.i (.v 104) (.i p2e49 (.i p2e48 .nil)))))))) cx hl hst hS (fun _ => (by (cases E; cases cx.hE; rfl))) (fun _ => (al2 rfl rfl)) (code_c hK) ?_ (is_c hK) (also_c hK) (by rfl) (by rfl) (by (cases E; cases cx.hE; rfl)) (by (cases E; cases cx.hE; rfl))
  · rw [num_4 hK]; (cases E; cases cx.hE; rfl)
theorem w2_14 (cx : Cx 2 E0 E k) : Gl 2 E0 E p2x14 := by
  intro hf
  simp only [facts_cons, p2f14, p2f13, p2f10, p2f4, p2f3, p2f2, p2f1, p2f0] at hf
  obtain ⟨a0, a1, a2, a3, a4, a5, a6, a7, a8, a9, a10, a11, a12, a13, a14, a15, _⟩ := hf
  simp only [le_t, lt_t, eq_t, eq_f, d_c, d_v, d_add, d_mul, d_rd, d_av, p2e3, p2e6, p2e7, p2e8, p2e9, p2e10, p2e11, p2e12] at a0 a1 a2 a3 a4 a5 a6 a7 a8 a9 a10 a11 a12 a13 a14 a15
  have hl : E.i 20 < E.i 0 := a15
  obtain ⟨hin, h1, h2⟩ := cx.in hl
  obtain ⟨hS, hK, hpc⟩ := sk8 (E := E) (c := 0) (kd := 5) (by omega) (by omega)
  have hst : stp 1 (fE E) (inpE E) = _ := stp5 hK
  (try rw [hpc] at hst)
  refine go8s (.i (.c 0) (.i (.c 0) (.b (.lt (.v 109) p2e25) (.b (.c false) (.i (.v 103) (.i (.v 104) (.i (.v 4) (.i (.v 5) .nil)))))))) cx hl hst hS (fun _ => rfl) (fun _ => (by (simp only [← imx_max]; rfl))) (fun _ => (ne2a rfl)) (code_c hK) (num_c hK) ?_ (also_c hK)
  · show b2i (((.lt (.v 109) p2e25) : SB).den E) = _
    rw [b2i_iff, is_5 hK]
    (try rw [hpc])
    simp only [pE, inpE, Nat.reduceMul, Nat.reduceAdd, d_c, d_v, d_add, d_mul, d_rd, d_av, p2e3, p2e24, p2e25, lt_t]
    (try done)
theorem w2_15 (cx : Cx 2 E0 E k) : Gl 2 E0 E p2x15 := by
  intro hf
  simp only [facts_cons, p2f14, p2f13, p2f10, p2f4, p2f3, p2f2, p2f1, p2f0] at hf
  obtain ⟨a0, a1, a2, a3, a4, a5, a6, a7, a8, a9, a10, a11, a12, a13, a14, a15, a16, _⟩ := hf
  simp only [le_t, lt_t, eq_t, eq_f, d_c, d_v, d_add, d_mul, d_rd, d_av, p2e3, p2e6, p2e7, p2e8, p2e9, p2e10, p2e11, p2e12] at a0 a1 a2 a3 a4 a5 a6 a7 a8 a9 a10 a11 a12 a13 a14 a15 a16
  have hl : E.i 20 < E.i 0 := a16
  obtain ⟨hin, h1, h2⟩ := cx.in hl
  obtain ⟨hS, hK, hpc⟩ := sk8 (E := E) (c := 0) (kd := 6) (by omega) (by omega)
  have hst : stp 1 (fE E) (inpE E) = _ := stp6 hK
  (try rw [hpc] at hst)
  refine go8n (.i (.c 0) (.i (.c 0) (.b (.lt (.v 10) p2e25) (.b (.c false) (.i (.v 103) (.i (.v 104) (.i (.v 4) (.i (.v 5) .nil)))))))) cx hl hst hS (fun _ => (by (simp only [← imx_max]; rfl))) (fun _ => (al2 rfl rfl)) (code_c hK) (num_c hK) ?_ (also_c hK)
  · show b2i (((.lt (.v 10) p2e25) : SB).den E) = _
    rw [b2i_iff, is_6 hK]
    (try rw [hpc])
    simp only [fE, cE, inpE, d_c, d_v, d_add, d_mul, d_rd, d_av, p2e3, p2e24, p2e25, lt_t]
    (try done)
theorem w2_16 (cx : Cx 2 E0 E k) : Gl 2 E0 E p2x16 := by
  intro hf
  simp only [facts_cons, p2f17, p2f16, p2f15, p2f14, p2f13, p2f10, p2f4, p2f3, p2f2, p2f1, p2f0] at hf
  obtain ⟨a0, a1, a2, a3, a4, a5, a6, a7, a8, a9, a10, a11, a12, a13, a14, a15, a16, a17, a18, a19, a20, a21, _⟩ := hf
  simp only [le_t, lt_t, eq_t, eq_f, d_c, d_v, d_add, d_mul, d_rd, d_av, p2e3, p2e6, p2e7, p2e8, p2e9, p2e10, p2e11, p2e12, p2e24, p2e25, p2e56, p2e57] at a0 a1 a2 a3 a4 a5 a6 a7 a8 a9 a10 a11 a12 a13 a14 a15 a16 a17 a18 a19 a20 a21
  have hl : E.i 20 < E.i 0 := a21
  obtain ⟨hin, h1, h2⟩ := cx.in hl
  obtain ⟨hS, hK, hpc⟩ := sk8 (E := E) (c := 0) (kd := 7) (by omega) (by omega)
  have hst : stp 1 (fE E) (inpE E) = _ := stp7 hK
  (try rw [hpc] at hst)
  exact go8s (.i (.c 0) (.i (.c 0) (.b (.c true) (.b (.c false) (.i (.v 103) (.i (.v 104) (.i (.v 4) (.i (.v 5) .nil)))))))) cx hl hst hS (fun _ => (by rfl)) (fun _ => (by rfl)) (fun _ => (ne2a rfl)) (code_c hK) (num_c hK) (by rw [if_pos (is_7 hK)]; rfl) (also_c hK)
theorem w2_17 (cx : Cx 2 E0 E k) : Gl 2 E0 E p2x17 := by
  intro hf
  simp only [facts_cons, p2f17, p2f16, p2f15, p2f14, p2f13, p2f10, p2f4, p2f3, p2f2, p2f1, p2f0] at hf
  obtain ⟨a0, a1, a2, a3, a4, a5, a6, a7, a8, a9, a10, a11, a12, a13, a14, a15, a16, a17, a18, a19, a20, a21, _⟩ := hf
  simp only [le_t, le_f, lt_t, eq_t, eq_f, d_c, d_v, d_add, d_mul, d_rd, d_av, p2e3, p2e6, p2e7, p2e8, p2e9, p2e10, p2e11, p2e12, p2e24, p2e25, p2e56, p2e57] at a0 a1 a2 a3 a4 a5 a6 a7 a8 a9 a10 a11 a12 a13 a14 a15 a16 a17 a18 a19 a20 a21
  have hl : E.i 20 < E.i 0 := a21
  obtain ⟨hin, h1, h2⟩ := cx.in hl
  have hS : (E.a 0 (E.i 20 * 6 + 1).toNat).toNat = 0 := by omega
  have hK : E.a 0 (E.i 20 * 6).toNat = 7 := by omega
  simp only [okIn, inpE, hS, fE, pE, cE, Nat.reduceMul, Nat.reduceAdd] at hin
  omega
theorem w2_18 (cx : Cx 2 E0 E k) : Gl 2 E0 E p2x18 := by
  intro hf
  simp only [facts_cons, p2f16, p2f15, p2f14, p2f13, p2f10, p2f4, p2f3, p2f2, p2f1, p2f0] at hf
  obtain ⟨a0, a1, a2, a3, a4, a5, a6, a7, a8, a9, a10, a11, a12, a13, a14, a15, a16, a17, a18, a19, a20, _⟩ := hf
  simp only [le_t, le_f, lt_t, eq_t, eq_f, d_c, d_v, d_add, d_mul, d_rd, d_av, p2e3, p2e6, p2e7, p2e8, p2e9, p2e10, p2e11, p2e12, p2e24, p2e25, p2e56] at a0 a1 a2 a3 a4 a5 a6 a7 a8 a9 a10 a11 a12 a13 a14 a15 a16 a17 a18 a19 a20
  have hl : E.i 20 < E.i 0 := a20
  obtain ⟨hin, h1, h2⟩ := cx.in hl
  have hS : (E.a 0 (E.i 20 * 6 + 1).toNat).toNat = 0 := by omega
  have hK : E.a 0 (E.i 20 * 6).toNat = 7 := by omega
  simp only [okIn, inpE, hS, fE, pE, cE, Nat.reduceMul, Nat.reduceAdd] at hin
  omega
theorem w2_19 (cx : Cx 2 E0 E k) : Gl 2 E0 E p2x19 := by
  intro hf
  simp only [facts_cons, p2f16, p2f15, p2f14, p2f13, p2f10, p2f4, p2f3, p2f2, p2f1, p2f0] at hf
  obtain ⟨a0, a1, a2, a3, a4, a5, a6, a7, a8, a9, a10, a11, a12, a13, a14, a15, a16, a17, a18, a19, _⟩ := hf
  simp only [le_t, le_f, lt_t, eq_t, eq_f, d_c, d_v, d_add, d_mul, d_rd, d_av, p2e3, p2e6, p2e7, p2e8, p2e9, p2e10, p2e11, p2e12, p2e24, p2e25] at a0 a1 a2 a3 a4 a5 a6 a7 a8 a9 a10 a11 a12 a13 a14 a15 a16 a17 a18 a19
  have hl : E.i 20 < E.i 0 := a19
  obtain ⟨hin, h1, h2⟩ := cx.in hl
  have hS : (E.a 0 (E.i 20 * 6 + 1).toNat).toNat = 0 := by omega
  have hK : E.a 0 (E.i 20 * 6).toNat = 7 := by omega
  simp only [okIn, inpE, hS, fE, pE, cE, Nat.reduceMul, Nat.reduceAdd] at hin
  omega
theorem w2_20 (cx : Cx 2 E0 E k) : Gl 2 E0 E p2x20 := by
  intro hf
  simp only [facts_cons, p2f15, p2f14, p2f13, p2f10, p2f4, p2f3, p2f2, p2f1, p2f0] at hf
  obtain ⟨a0, a1, a2, a3, a4, a5, a6, a7, a8, a9, a10, a11, a12, a13, a14, a15, a16, a17, a18, _⟩ := hf
  simp only [le_t, le_f, lt_t, eq_t, eq_f, d_c, d_v, d_add, d_mul, d_rd, d_av, p2e3, p2e6, p2e7, p2e8, p2e9, p2e10, p2e11, p2e12, p2e24, p2e25] at a0 a1 a2 a3 a4 a5 a6 a7 a8 a9 a10 a11 a12 a13 a14 a15 a16 a17 a18
  have hl : E.i 20 < E.i 0 := a18
  obtain ⟨hin, h1, h2⟩ := cx.in hl
  have hS : (E.a 0 (E.i 20 * 6 + 1).toNat).toNat = 0 := by omega
  have hK : E.a 0 (E.i 20 * 6).toNat = 7 := by omega
  simp only [okIn, inpE, hS, fE, pE, cE, Nat.reduceMul, Nat.reduceAdd] at hin
  omega
theorem w2_21 (cx : Cx 2 E0 E k) : Gl 2 E0 E p2x21 := by
  intro hf
  simp only [facts_cons, p2f15, p2f14, p2f13, p2f10, p2f4, p2f3, p2f2, p2f1, p2f0] at hf
  obtain ⟨a0, a1, a2, a3, a4, a5, a6, a7, a8, a9, a10, a11, a12, a13, a14, a15, a16, a17, a18, _⟩ := hf
  simp only [le_t, lt_t, eq_t, eq_f, d_c, d_v, d_add, d_mul, d_rd, d_av, p2e3, p2e6, p2e7, p2e8, p2e9, p2e10, p2e11, p2e12] at a0 a1 a2 a3 a4 a5 a6 a7 a8 a9 a10 a11 a12 a13 a14 a15 a16 a17 a18
  have hl : E.i 20 < E.i 0 := a18
  obtain ⟨hin, h1, h2⟩ := cx.in hl
  obtain ⟨hS, hK, hpc⟩ := sk8 (E := E) (c := 0) (kd := 8) (by omega) (by omega)
  have hst : stp 1 (fE E) (inpE E) = _ := stp8 hK
  (try rw [hpc] at hst)
  refine go8n (.i (.c 0) (.i p2e61 (.b (.c false) (.b (.c false) (.i (.v 103) (.i (.v 104) (.i (.v 4) (.i (.v 5) .nil)))))))) cx hl hst hS (fun _ => rfl) (fun _ => (al2 rfl rfl)) (code_c hK) ?_ (is_c hK) (also_c hK)
  · rw [num_8 hK]; (show (p2e61 : SE).den E = _; rw [hpc]; (simp only [fE, cE, pE, Nat.reduceMul, Nat.reduceAdd, d_v, d_sub, d_mn, p2e59, p2e60, p2e61, imn_min]; done))
theorem w2_22 (cx : Cx 2 E0 E k) : Gl 2 E0 E p2x22 := by
  intro hf
  simp only [facts_cons, p2f18, p2f15, p2f14, p2f13, p2f10, p2f4, p2f3, p2f2, p2f1, p2f0] at hf
  obtain ⟨a0, a1, a2, a3, a4, a5, a6, a7, a8, a9, a10, a11, a12, a13, a14, a15, a16, a17, a18, a19, _⟩ := hf
  simp only [le_t, lt_t, eq_t, eq_f, d_c, d_v, d_add, d_mul, d_rd, d_av, p2e3, p2e6, p2e7, p2e8, p2e9, p2e10, p2e11, p2e12] at a0 a1 a2 a3 a4 a5 a6 a7 a8 a9 a10 a11 a12 a13 a14 a15 a16 a17 a18 a19
  have hl : E.i 20 < E.i 0 := a19
  obtain ⟨hin, h1, h2⟩ := cx.in hl
  obtain ⟨hS, hK, hpc⟩ := sk8 (E := E) (c := 0) (kd := 9) (by omega) (by omega)
  have hst : stp 1 (fE E) (inpE E) = _ := stp9 hK
  (try rw [hpc] at hst)
  refine go8s (.i (.c 0) (.i (.c 0) (.b (.and (.not (.lt (.v 108) (.v 109))) (.not (.eq (.v 109) (.v 110)))) (.b (.c false) (.i (.v 103) (.i (.v 104) (.i (.v 4) (.i (.v 5) .nil)))))))) cx hl hst hS (fun _ => rfl) (fun _ => (by (show (⟨((.v 101) : SE).den E, ((.v 102) : SE).den E, ((.v 103) : SE).den E, ((.v 104) : SE).den E, ((.v 105) : SE).den E, ((.v 106) : SE).den E, ((.v 107) : SE).den E, ((.v 108) : SE).den E, ((.v 109) : SE).den E, (p2e63 : SE).den E, b2i (((.v 2) : SB).den E), 0⟩ : P1) = _; (simp only [blkP, pE, Nat.reduceMul, Nat.reduceAdd, d_v, d_bv, d_ite, p2e63, ite_lt]; rfl)))) (fun _ => (ne2a rfl)) (code_c hK) (num_c hK) ?_ (also_c hK)
  · show b2i (((.and (.not (.lt (.v 108) (.v 109))) (.not (.eq (.v 109) (.v 110)))) : SB).den E) = _
    rw [b2i_iff, is_9 hK]
    (try rw [hpc])
    simp only [newB, pE, Nat.reduceMul, Nat.reduceAdd, Int.not_lt, d_v, and_t, not_t, lt_f, eq_f, ne_eq]
    (try done)
theorem w2_23 (cx : Cx 2 E0 E k) : Gl 2 E0 E p2x23 := by
  intro hf
  simp only [facts_cons, p2f18, p2f15, p2f14, p2f13, p2f10, p2f4, p2f3, p2f2, p2f1, p2f0] at hf
  obtain ⟨a0, a1, a2, a3, a4, a5, a6, a7, a8, a9, a10, a11, a12, a13, a14, a15, a16, a17, a18, a19, a20, _⟩ := hf
  simp only [le_t, lt_t, eq_t, eq_f, d_c, d_v, d_add, d_mul, d_rd, d_av, p2e3, p2e6, p2e7, p2e8, p2e9, p2e10, p2e11, p2e12] at a0 a1 a2 a3 a4 a5 a6 a7 a8 a9 a10 a11 a12 a13 a14 a15 a16 a17 a18 a19 a20
  have hl : E.i 20 < E.i 0 := a20
  obtain ⟨hin, h1, h2⟩ := cx.in hl
  obtain ⟨hS, hK, hpc⟩ := sk8 (E := E) (c := 0) (kd := 10) (by omega) (by omega)
  have hst : stp 1 (fE E) (inpE E) = _ := stp10 hK
  (try rw [hpc] at hst)
  refine go8n (.i (.c 0) (.i p2e66 (.b (.and (.not (.lt (.v 9) (.v 10))) (.not (.eq (.v 10) (.v 11)))) (.b (.c false) (.i (.v 103) (.i (.v 104) (.i (.v 4) (.i (.v 5) .nil)))))))) cx hl hst hS (fun _ => (by (show (⟨((.v 2) : SE).den E, ((.v 3) : SE).den E, ((.v 4) : SE).den E, ((.v 5) : SE).den E, ((.v 6) : SE).den E, ((.v 7) : SE).den E, ((.v 8) : SE).den E, ((.v 9) : SE).den E, ((.v 10) : SE).den E, (p2e65 : SE).den E, 0, 0⟩ : P1) = _; (simp only [blkP, fE, cE, d_v, d_ite, p2e65, ite_lt]; rfl)))) (fun _ => (al2 rfl rfl)) (code_c hK) ?_ ?_ (also_c hK)
  · rw [num_10 hK]; (show (p2e66 : SE).den E = _; simp only [newB, fE, cE, Int.not_lt, d_c, d_v, d_ite, p2e66, and_t, not_t, lt_f, eq_f, ne_eq]; done)
  · show b2i (((.and (.not (.lt (.v 9) (.v 10))) (.not (.eq (.v 10) (.v 11)))) : SB).den E) = _
    rw [b2i_iff, is_10 hK]
    (try rw [hpc])
    simp only [newB, fE, cE, Int.not_lt, d_v, and_t, not_t, lt_f, eq_f, ne_eq]
    (try done)
theorem w2_24 (cx : Cx 2 E0 E k) : Gl 2 E0 E p2x24 := by
  intro hf
  simp only [facts_cons, p2f20, p2f19, p2f18, p2f15, p2f14, p2f13, p2f10, p2f4, p2f3, p2f2, p2f1, p2f0] at hf
  obtain ⟨a0, a1, a2, a3, a4, a5, a6, a7, a8, a9, a10, a11, a12, a13, a14, a15, a16, a17, a18, a19, a20, a21, a22, a23, a24, _⟩ := hf
  simp only [le_t, lt_t, eq_t, eq_f, d_c, d_v, d_bv, d_add, d_mul, d_rd, d_av, p2e3, p2e6, p2e7, p2e8, p2e9, p2e10, p2e11, p2e12, p2e24, p2e25] at a0 a1 a2 a3 a4 a5 a6 a7 a8 a9 a10 a11 a12 a13 a14 a15 a16 a17 a18 a19 a20 a21 a22 a23 a24
  have hl : E.i 20 < E.i 0 := a24
  obtain ⟨hin, h1, h2⟩ := cx.in hl
  have hS : (E.a 0 (E.i 20 * 6 + 1).toNat).toNat = 0 := by omega
  have hK : E.a 0 (E.i 20 * 6).toNat = 11 := by omega
  simp only [okIn, inpE, hS, fE, pE, cE, Nat.reduceMul, Nat.reduceAdd] at hin
  (cases hb : E.b 1 <;> simp only [hb, b2i, Bool.false_eq_true, ↓reduceIte] at a0 hin <;> omega)
theorem w2_25 (cx : Cx 2 E0 E k) : Gl 2 E0 E p2x25 := by
  intro hf
  simp only [facts_cons, p2f20, p2f19, p2f18, p2f15, p2f14, p2f13, p2f10, p2f4, p2f3, p2f2, p2f1, p2f0] at hf
  obtain ⟨a0, a1, a2, a3, a4, a5, a6, a7, a8, a9, a10, a11, a12, a13, a14, a15, a16, a17, a18, a19, a20, a21, a22, a23, a24, _⟩ := hf
  simp only [le_t, lt_t, eq_t, eq_f, d_c, d_v, d_bv, d_add, d_mul, d_rd, d_av, p2e3, p2e6, p2e7, p2e8, p2e9, p2e10, p2e11, p2e12, p2e24, p2e25] at a0 a1 a2 a3 a4 a5 a6 a7 a8 a9 a10 a11 a12 a13 a14 a15 a16 a17 a18 a19 a20 a21 a22 a23 a24
  have hl : E.i 20 < E.i 0 := a24
  obtain ⟨hin, h1, h2⟩ := cx.in hl
  obtain ⟨hS, hK, hpc⟩ := sk8 (E := E) (c := 0) (kd := 11) (by omega) (by omega)
  have hst : stp 1 (fE E) (inpE E) = _ := stp11 hK
  (try rw [hpc] at hst)
  exact go8n (.i (.c 0) (.i (.c 0) (.b (.c false) (.b (.c false) (.i (.v 103) (.i (.v 104) (.i (.v 4) (.i (.v 5) .nil)))))))) cx hl hst hS (fun _ => rfl) (fun _ => (al2 rfl rfl)) (code_c hK) (num_c hK) (is_c hK) (also_c hK)
theorem w2_26 (cx : Cx 2 E0 E k) : Gl 2 E0 E p2x26 := by
  intro hf
  simp only [facts_cons, p2f20, p2f19, p2f18, p2f15, p2f14, p2f13, p2f10, p2f4, p2f3, p2f2, p2f1, p2f0] at hf
  obtain ⟨a0, a1, a2, a3, a4, a5, a6, a7, a8, a9, a10, a11, a12, a13, a14, a15, a16, a17, a18, a19, a20, a21, a22, a23, _⟩ := hf
  simp only [le_t, le_f, lt_t, eq_t, eq_f, d_c, d_v, d_add, d_mul, d_rd, d_av, p2e3, p2e6, p2e7, p2e8, p2e9, p2e10, p2e11, p2e12, p2e24, p2e25] at a0 a1 a2 a3 a4 a5 a6 a7 a8 a9 a10 a11 a12 a13 a14 a15 a16 a17 a18 a19 a20 a21 a22 a23
  have hl : E.i 20 < E.i 0 := a23
  obtain ⟨hin, h1, h2⟩ := cx.in hl
  have hS : (E.a 0 (E.i 20 * 6 + 1).toNat).toNat = 0 := by omega
  have hK : E.a 0 (E.i 20 * 6).toNat = 11 := by omega
  simp only [okIn, inpE, hS, fE, pE, cE, Nat.reduceMul, Nat.reduceAdd] at hin
  omega
theorem w2_27 (cx : Cx 2 E0 E k) : Gl 2 E0 E p2x27 := by
  intro hf
  simp only [facts_cons, p2f19, p2f18, p2f15, p2f14, p2f13, p2f10, p2f4, p2f3, p2f2, p2f1, p2f0] at hf
  obtain ⟨a0, a1, a2, a3, a4, a5, a6, a7, a8, a9, a10, a11, a12, a13, a14, a15, a16, a17, a18, a19, a20, a21, a22, _⟩ := hf
  simp only [le_t, le_f, lt_t, eq_t, eq_f, d_c, d_v, d_add, d_mul, d_rd, d_av, p2e3, p2e6, p2e7, p2e8, p2e9, p2e10, p2e11, p2e12, p2e24, p2e25] at a0 a1 a2 a3 a4 a5 a6 a7 a8 a9 a10 a11 a12 a13 a14 a15 a16 a17 a18 a19 a20 a21 a22
  have hl : E.i 20 < E.i 0 := a22
  obtain ⟨hin, h1, h2⟩ := cx.in hl
  have hS : (E.a 0 (E.i 20 * 6 + 1).toNat).toNat = 0 := by omega
  have hK : E.a 0 (E.i 20 * 6).toNat = 11 := by omega
  simp only [okIn, inpE, hS, fE, pE, cE, Nat.reduceMul, Nat.reduceAdd] at hin
  omega
theorem w2_28 (cx : Cx 2 E0 E k) : Gl 2 E0 E p2x28 := by
  intro hf
  simp only [facts_cons, p2f19, p2f18, p2f15, p2f14, p2f13, p2f10, p2f4, p2f3, p2f2, p2f1, p2f0] at hf
  obtain ⟨a0, a1, a2, a3, a4, a5, a6, a7, a8, a9, a10, a11, a12, a13, a14, a15, a16, a17, a18, a19, a20, a21, _⟩ := hf
  simp only [le_t, lt_t, eq_f, d_c, d_v, d_add, d_mul, d_rd, d_av, p2e3, p2e6, p2e7, p2e8, p2e9, p2e10, p2e11, p2e12] at a0 a1 a2 a3 a4 a5 a6 a7 a8 a9 a10 a11 a12 a13 a14 a15 a16 a17 a18 a19 a20 a21
  have hl : E.i 20 < E.i 0 := a21
  obtain ⟨hin, h1, h2⟩ := cx.in hl
  exfalso; omega
theorem w2_29 (cx : Cx 2 E0 E k) : Gl 2 E0 E p2x29 := by
  intro hf
  simp only [facts_cons, p2f21, p2f4, p2f3, p2f2, p2f1, p2f0] at hf
  obtain ⟨a0, a1, a2, a3, a4, a5, a6, a7, a8, a9, a10, a11, _⟩ := hf
  simp only [and_t, not_t, le_t, le_f, lt_t, eq_t, eq_f, d_c, d_v, d_bv, d_add, d_mul, d_rd, d_av, p2e3, p2e4, p2e5, p2e6, p2e7, p2e8, p2e9, p2e10, p2e11, p2e12] at a0 a1 a2 a3 a4 a5 a6 a7 a8 a9 a10 a11
  have hl : E.i 20 < E.i 0 := a11
  obtain ⟨hin, h1, h2⟩ := cx.in hl
  obtain ⟨hS, hK, hpc⟩ := sk8 (E := E) (c := 1) (kd := 0) (by omega) (by omega)
  obtain ⟨A6, A7, A3, A4⟩ := aa1 hpc
  have T6 := A6.2 (by exact .inl a0)
  have hst : stp 1 (fE E) (inpE E) = _ := stp0a hK T6
  (try rw [hpc] at hst)
  exact go8n (.i (.c 6) (.i (.c 0) (.b (.c false) (.b (.c false) (.i (.v 203) (.i (.v 204) (.i (.v 4) (.i (.v 5) .nil)))))))) cx hl hst hS (fun _ => rfl) (fun _ => (al2 rfl rfl)) (code_6 hK (.inl T6)).symm (num_c hK) (is_c hK) (also_c hK)
theorem w2_30 (cx : Cx 2 E0 E k) : Gl 2 E0 E p2x30 := by
  intro hf
  simp only [facts_cons, p2f22, p2f21, p2f4, p2f3, p2f2, p2f1, p2f0] at hf
  obtain ⟨a0, a1, a2, a3, a4, a5, a6, a7, a8, a9, a10, a11, a12, _⟩ := hf
  simp only [and_t, and_f, not_t, le_t, le_f, lt_t, eq_t, eq_f, d_c, d_v, d_bv, d_add, d_mul, d_rd, d_av, p2e3, p2e4, p2e5, p2e6, p2e7, p2e8, p2e9, p2e10, p2e11, p2e12] at a0 a1 a2 a3 a4 a5 a6 a7 a8 a9 a10 a11 a12
  have hl : E.i 20 < E.i 0 := a12
  obtain ⟨hin, h1, h2⟩ := cx.in hl
  obtain ⟨hS, hK, hpc⟩ := sk8 (E := E) (c := 1) (kd := 0) (by omega) (by omega)
  obtain ⟨A6, A7, A3, A4⟩ := aa1 hpc
  have T6 := A6.2 (by exact .inr a0)
  have hst : stp 1 (fE E) (inpE E) = _ := stp0a hK T6
  (try rw [hpc] at hst)
  exact go8n (.i (.c 6) (.i (.c 0) (.b (.c false) (.b (.c false) (.i (.v 203) (.i (.v 204) (.i (.v 4) (.i (.v 5) .nil)))))))) cx hl hst hS (fun _ => rfl) (fun _ => (al2 rfl rfl)) (code_6 hK (.inl T6)).symm (num_c hK) (is_c hK) (also_c hK)
theorem w2_31 (cx : Cx 2 E0 E k) : Gl 2 E0 E p2x31 := by
  intro hf
  simp only [facts_cons, p2f23, p2f22, p2f21, p2f4, p2f3, p2f2, p2f1, p2f0] at hf
  obtain ⟨a0, a1, a2, a3, a4, a5, a6, a7, a8, a9, a10, a11, a12, a13, _⟩ := hf
  simp only [and_t, and_f, not_t, le_t, le_f, lt_t, eq_t, eq_f, d_c, d_v, d_bv, d_add, d_mul, d_rd, d_av, p2e3, p2e4, p2e5, p2e6, p2e7, p2e8, p2e9, p2e10, p2e11, p2e12] at a0 a1 a2 a3 a4 a5 a6 a7 a8 a9 a10 a11 a12 a13
  have hl : E.i 20 < E.i 0 := a13
  obtain ⟨hin, h1, h2⟩ := cx.in hl
  obtain ⟨hS, hK, hpc⟩ := sk8 (E := E) (c := 1) (kd := 0) (by omega) (by omega)
  obtain ⟨A6, A7, A3, A4⟩ := aa1 hpc
  have F6 : ¬ _ := (fun h => by have h := A6.1 h; cases hb : E.b 3 <;> simp only [hb, Bool.false_eq_true, false_and, or_false, true_and, ne_eq] at h a1 a2 <;> omega)
  have T7 := A7.2 (by exact a0)
  have hst : stp 1 (fE E) (inpE E) = _ := stp0b hK F6 T7
  (try rw [hpc] at hst)
  exact go8s (.i (.c 6) (.i (.c 0) (.b (.c false) (.b (.c false) (.i (.v 203) (.i (.v 204) (.i (.v 4) (.i (.v 5) .nil)))))))) cx hl hst hS (fun _ => rfl) (fun _ => (by rfl)) (fun _ => (ne2b rfl)) (code_6 hK (.inr T7)).symm (num_c hK) (is_c hK) (also_c hK)
theorem w2_32 (cx : Cx 2 E0 E k) : Gl 2 E0 E p2x32 := by
  intro hf
  simp only [facts_cons, p2f24, p2f23, p2f22, p2f21, p2f4, p2f3, p2f2, p2f1, p2f0] at hf
  obtain ⟨a0, a1, a2, a3, a4, a5, a6, a7, a8, a9, a10, a11, a12, a13, a14, _⟩ := hf
  simp only [and_t, and_f, not_t, le_t, le_f, lt_t, eq_t, eq_f, d_c, d_v, d_bv, d_add, d_mul, d_rd, d_av, p2e3, p2e4, p2e5, p2e6, p2e7, p2e8, p2e9, p2e10, p2e11, p2e12] at a0 a1 a2 a3 a4 a5 a6 a7 a8 a9 a10 a11 a12 a13 a14
  have hl : E.i 20 < E.i 0 := a14
  obtain ⟨hin, h1, h2⟩ := cx.in hl
  obtain ⟨hS, hK, hpc⟩ := sk8 (E := E) (c := 1) (kd := 0) (by omega) (by omega)
  obtain ⟨A6, A7, A3, A4⟩ := aa1 hpc
  have F6 : ¬ _ := (fun h => by have h := A6.1 h; cases hb : E.b 3 <;> simp only [hb, Bool.false_eq_true, false_and, or_false, true_and, ne_eq] at h a2 a3 <;> omega)
  have F7 : ¬ _ := (fun h => by have h := A7.1 h; omega)
  have T3 := A3.2 (by exact a0)
  have hst : stp 1 (fE E) (inpE E) = _ := stp0c hK F6 F7 T3
  (try rw [hpc] at hst)
  exact go8s (.i (.c 3) (.i (.c 0) (.b (.c false) (.b (.c false) (.i (.v 203) (.i (.v 204) (.i (.v 4) (.i (.v 5) .nil)))))))) cx hl hst hS (fun _ => rfl) (fun _ => (by (show (⟨(p2e73 : SE).den E, ((.v 202) : SE).den E, ((.v 203) : SE).den E, ((.v 204) : SE).den E, ((.v 205) : SE).den E, (p2e72 : SE).den E, (p2e71 : SE).den E, ((.v 208) : SE).den E, ((.v 209) : SE).den E, ((.v 210) : SE).den E, b2i (((.not (.and (.not (.v 3)) (.eq p2e5 (.c 0)))) : SB).den E), 0⟩ : P1) = _; (simp only [comeP, pE, inpE, Nat.reduceMul, Nat.reduceAdd, not_d, and_d, eq_d, d_c, d_v, d_ap, d_sli, d_slnil, d_bv, d_add, d_sub, d_mul, d_mx, d_rd, d_av, p2e3, p2e4, p2e5, p2e6, p2e7, p2e11, p2e12, p2e70, p2e71, p2e72, p2e73, cx.hE, f9, f10, imx_max, fin_or2]; rfl)))) (fun _ => (ne2b rfl)) (code_3 hK F6 F7 (.inl T3)).symm (num_c hK) (is_c hK) (also_c hK)
theorem w2_33 (cx : Cx 2 E0 E k) : Gl 2 E0 E p2x33 := by
  intro hf
  simp only [facts_cons, p2f25, p2f24, p2f23, p2f22, p2f21, p2f4, p2f3, p2f2, p2f1, p2f0] at hf
  obtain ⟨a0, a1, a2, a3, a4, a5, a6, a7, a8, a9, a10, a11, a12, a13, a14, a15, _⟩ := hf
  simp only [and_t, and_f, not_t, le_t, le_f, lt_t, eq_t, eq_f, d_c, d_v, d_bv, d_add, d_sub, d_mul, d_rd, d_av, p2e3, p2e4, p2e5, p2e6, p2e7, p2e8, p2e9, p2e10, p2e11, p2e12, p2e70, p2e79] at a0 a1 a2 a3 a4 a5 a6 a7 a8 a9 a10 a11 a12 a13 a14 a15
  have hl : E.i 20 < E.i 0 := a15
  obtain ⟨hin, h1, h2⟩ := cx.in hl
  obtain ⟨hS, hK, hpc⟩ := sk8 (E := E) (c := 1) (kd := 0) (by omega) (by omega)
  obtain ⟨A6, A7, A3, A4⟩ := aa1 hpc
  have F6 : ¬ _ := (fun h => by have h := A6.1 h; cases hb : E.b 3 <;> simp only [hb, Bool.false_eq_true, false_and, or_false, true_and, ne_eq] at h a3 a4 <;> omega)
  have F7 : ¬ _ := (fun h => by have h := A7.1 h; omega)
  have F3 : ¬ _ := (fun h => by have h := A3.1 h; omega)
  have T4 := A4.2 (by exact a0)
  have hst : stp 1 (fE E) (inpE E) = _ := stp0d hK F6 F7 F3
  (try rw [hpc] at hst)
  exact go8s (.i (.c 3) (.i (.c 0) (.b (.c false) (.b (.c false) (.i (.v 203) (.i (.v 204) (.i (.v 4) (.i (.v 5) .nil)))))))) cx hl hst hS (fun _ => (by (cases E; cases cx.hE; simp only [comeC, ← imx_max]; rfl))) (fun _ => (by (show (⟨(p2e73 : SE).den E, ((.v 202) : SE).den E, ((.v 203) : SE).den E, ((.v 204) : SE).den E, ((.v 205) : SE).den E, (p2e72 : SE).den E, (p2e71 : SE).den E, ((.v 208) : SE).den E, ((.v 209) : SE).den E, ((.v 210) : SE).den E, b2i (((.not (.and (.not (.v 3)) (.eq p2e5 (.c 0)))) : SB).den E), 0⟩ : P1) = _; (simp only [comeP, pE, inpE, Nat.reduceMul, Nat.reduceAdd, not_d, and_d, eq_d, d_c, d_v, d_ap, d_sli, d_slnil, d_bv, d_add, d_sub, d_mul, d_mx, d_rd, d_av, p2e3, p2e4, p2e5, p2e6, p2e7, p2e11, p2e12, p2e70, p2e71, p2e72, p2e73, cx.hE, f9, f10, imx_max, fin_or2]; rfl)))) (fun _ => (ne2b rfl)) (code_3 hK F6 F7 (.inr T4)).symm (num_c hK) (is_c hK) (also_c hK)
theorem w2_34 (cx : Cx 2 E0 E k) : Gl 2 E0 E p2x34 := by
  intro hf
  simp only [facts_cons, p2f25, p2f24, p2f23, p2f22, p2f21, p2f4, p2f3, p2f2, p2f1, p2f0] at hf
  obtain ⟨a0, a1, a2, a3, a4, a5, a6, a7, a8, a9, a10, a11, a12, a13, a14, a15, _⟩ := hf
  simp only [and_t, and_f, not_t, le_t, le_f, lt_t, eq_t, eq_f, d_c, d_v, d_bv, d_add, d_sub, d_mul, d_rd, d_av, p2e3, p2e4, p2e5, p2e6, p2e7, p2e8, p2e9, p2e10, p2e11, p2e12, p2e70, p2e79] at a0 a1 a2 a3 a4 a5 a6 a7 a8 a9 a10 a11 a12 a13 a14 a15
  have hl : E.i 20 < E.i 0 := a15
  obtain ⟨hin, h1, h2⟩ := cx.in hl
  obtain ⟨hS, hK, hpc⟩ := sk8 (E := E) (c := 1) (kd := 0) (by omega) (by omega)
  obtain ⟨A6, A7, A3, A4⟩ := aa1 hpc
  have F6 : ¬ _ := (fun h => by have h := A6.1 h; cases hb : E.b 3 <;> simp only [hb, Bool.false_eq_true, false_and, or_false, true_and, ne_eq] at h a3 a4 <;> omega)
  have F7 : ¬ _ := (fun h => by have h := A7.1 h; omega)
  have F3 : ¬ _ := (fun h => by have h := A3.1 h; omega)
  have F4 : ¬ _ := (fun h => by have h := A4.1 h; omega)
  have hst : stp 1 (fE E) (inpE E) = _ := stp0d hK F6 F7 F3
  (try rw [hpc] at hst)
  exact go8s (.i (.c 0) (.i (.c 0) (.b (.c false) (.b (.c false) (.i (.v 203) (.i (.v 204) (.i (.v 4) (.i (.v 5) .nil)))))))) cx hl hst hS (fun _ => (by (cases E; cases cx.hE; simp only [comeC, ← imx_max]; rfl))) (fun _ => (by (show (⟨(p2e73 : SE).den E, ((.v 202) : SE).den E, ((.v 203) : SE).den E, ((.v 204) : SE).den E, ((.v 205) : SE).den E, (p2e72 : SE).den E, (p2e71 : SE).den E, ((.v 208) : SE).den E, ((.v 209) : SE).den E, ((.v 210) : SE).den E, b2i (((.not (.and (.not (.v 3)) (.eq p2e5 (.c 0)))) : SB).den E), 0⟩ : P1) = _; (simp only [comeP, pE, inpE, Nat.reduceMul, Nat.reduceAdd, not_d, and_d, eq_d, d_c, d_v, d_ap, d_sli, d_slnil, d_bv, d_add, d_sub, d_mul, d_mx, d_rd, d_av, p2e3, p2e4, p2e5, p2e6, p2e7, p2e11, p2e12, p2e70, p2e71, p2e72, p2e73, cx.hE, f9, f10, imx_max, fin_or2]; rfl)))) (fun _ => (ne2b rfl)) (code_0 hK F6 F7 F3 F4).symm (num_c hK) (is_c hK) (also_c hK)
theorem w2_35 (cx : Cx 2 E0 E k) : Gl 2 E0 E p2x35 := by
  intro hf
  simp only [facts_cons, p2f27, p2f26, p2f4, p2f3, p2f2, p2f1, p2f0] at hf
  obtain ⟨a0, a1, a2, a3, a4, a5, a6, a7, a8, a9, a10, a11, a12, a13, _⟩ := hf
  simp only [le_t, le_f, lt_t, eq_t, eq_f, d_c, d_v, d_add, d_mul, d_rd, d_av, p2e3, p2e6, p2e7, p2e8, p2e9, p2e10, p2e11, p2e12, p2e24, p2e25] at a0 a1 a2 a3 a4 a5 a6 a7 a8 a9 a10 a11 a12 a13
  have hl : E.i 20 < E.i 0 := a13
  obtain ⟨hin, h1, h2⟩ := cx.in hl
  obtain ⟨hS, hK, hpc⟩ := sk8 (E := E) (c := 1) (kd := 1) (by omega) (by omega)
  have hst : stp 1 (fE E) (inpE E) = _ := stp1 hK
  (try rw [hpc] at hst)
  refine go8s (.i (.c 0) (.i (.c 0) (.b (.and (.not (.v 3)) (.le p2e82 p2e84)) (.b (.le p2e31 p2e33) (.i (.v 203) (.i (.v 204) (.i (.v 4) (.i (.v 5) .nil)))))))) cx hl hst hS (fun _ => (by rfl)) (fun _ => (by rfl)) (fun _ => (ne2b rfl)) (code_c hK) (num_c hK) ?_ ?_
  · show b2i (((.and (.not (.v 3)) (.le p2e82 p2e84)) : SB).den E) = _
    rw [b2i_iff, is_1 hK]
    (try rw [hpc])
    simp only [pE, inpE, Nat.reduceMul, Nat.reduceAdd, d_c, d_v, d_bv, d_add, d_sub, d_mul, d_tdiv, d_rd, d_av, p2e3, p2e24, p2e25, p2e81, p2e82, p2e83, p2e84, and_t, not_t, le_t, b2i_z, duE]
    (try (rw [tdn (by have g := (good8 cx.hI cx.hsc).2.1 1 (by omega); simp only [okP, fE, pE, Nat.reduceMul, Nat.reduceAdd] at g; omega)]))
  · show b2i (((.le p2e31 p2e33) : SB).den E) = _
    rw [b2i_iff, also_1 hK]
    simp only [fE, cE, inpE, d_c, d_v, d_add, d_sub, d_mul, d_tdiv, d_rd, d_av, p2e3, p2e24, p2e25, p2e27, p2e31, p2e32, p2e33, le_t, duE]
    (try (rw [tdn (by have g := (good8 cx.hI cx.hsc).1; simp only [okP, fE, cE] at g; omega)]))
theorem w2_36 (cx : Cx 2 E0 E k) : Gl 2 E0 E p2x36 := by
  intro hf
  simp only [facts_cons, p2f27, p2f26, p2f4, p2f3, p2f2, p2f1, p2f0] at hf
  obtain ⟨a0, a1, a2, a3, a4, a5, a6, a7, a8, a9, a10, a11, a12, a13, _⟩ := hf
  simp only [le_t, le_f, lt_t, eq_t, eq_f, d_c, d_v, d_add, d_mul, d_rd, d_av, p2e3, p2e6, p2e7, p2e8, p2e9, p2e10, p2e11, p2e12, p2e24, p2e25] at a0 a1 a2 a3 a4 a5 a6 a7 a8 a9 a10 a11 a12 a13
  have hl : E.i 20 < E.i 0 := a13
  obtain ⟨hin, h1, h2⟩ := cx.in hl
  have hS : (E.a 0 (E.i 20 * 6 + 1).toNat).toNat = 1 := by omega
  have hK : E.a 0 (E.i 20 * 6).toNat = 1 := by omega
  simp only [okIn, inpE, hS, fE, pE, cE, Nat.reduceMul, Nat.reduceAdd] at hin
  omega
theorem w2_37 (cx : Cx 2 E0 E k) : Gl 2 E0 E p2x37 := by
  intro hf
  simp only [facts_cons, p2f26, p2f4, p2f3, p2f2, p2f1, p2f0] at hf
  obtain ⟨a0, a1, a2, a3, a4, a5, a6, a7, a8, a9, a10, a11, a12, _⟩ := hf
  simp only [le_t, le_f, lt_t, eq_t, eq_f, d_c, d_v, d_add, d_mul, d_rd, d_av, p2e3, p2e6, p2e7, p2e8, p2e9, p2e10, p2e11, p2e12, p2e24, p2e25] at a0 a1 a2 a3 a4 a5 a6 a7 a8 a9 a10 a11 a12
  have hl : E.i 20 < E.i 0 := a12
  obtain ⟨hin, h1, h2⟩ := cx.in hl
  have hS : (E.a 0 (E.i 20 * 6 + 1).toNat).toNat = 1 := by omega
  have hK : E.a 0 (E.i 20 * 6).toNat = 1 := by omega
  simp only [okIn, inpE, hS, fE, pE, cE, Nat.reduceMul, Nat.reduceAdd] at hin
  omega
theorem w2_38 (cx : Cx 2 E0 E k) : Gl 2 E0 E p2x38 := by
  intro hf
  simp only [facts_cons, p2f28, p2f26, p2f4, p2f3, p2f2, p2f1, p2f0] at hf
  obtain ⟨a0, a1, a2, a3, a4, a5, a6, a7, a8, a9, a10, a11, a12, a13, _⟩ := hf
  simp only [le_t, le_f, lt_t, eq_t, eq_f, d_c, d_v, d_add, d_mul, d_rd, d_av, p2e3, p2e6, p2e7, p2e8, p2e9, p2e10, p2e11, p2e12] at a0 a1 a2 a3 a4 a5 a6 a7 a8 a9 a10 a11 a12 a13
  have hl : E.i 20 < E.i 0 := a13
  obtain ⟨hin, h1, h2⟩ := cx.in hl
  obtain ⟨hS, hK, hpc⟩ := sk8 (E := E) (c := 1) (kd := 2) (by omega) (by omega)
  have hst : stp 1 (fE E) (inpE E) = _ := stp2 hK
  (try rw [hpc] at hst)
  exact go8s (.i (.c 0) (.i (.c 0) (.b (.c false) (.b (.c false) (.i (.v 203) (.i (.v 204) (.i (.v 4) (.i (.v 5) .nil)))))))) cx hl hst hS (fun _ => (by rfl)) (fun _ => (by rfl)) (fun _ => (ne2b rfl)) (code_c hK) (num_c hK) (is_c hK) (also_c hK)
theorem w2_39 (cx : Cx 2 E0 E k) : Gl 2 E0 E p2x39 := by
  intro hf
  simp only [facts_cons, p2f28, p2f26, p2f4, p2f3, p2f2, p2f1, p2f0] at hf
  obtain ⟨a0, a1, a2, a3, a4, a5, a6, a7, a8, a9, a10, a11, a12, a13, _⟩ := hf
  simp only [le_t, le_f, lt_t, eq_t, eq_f, d_c, d_v, d_add, d_mul, d_rd, d_av, p2e3, p2e6, p2e7, p2e8, p2e9, p2e10, p2e11, p2e12] at a0 a1 a2 a3 a4 a5 a6 a7 a8 a9 a10 a11 a12 a13
  have hl : E.i 20 < E.i 0 := a13
  obtain ⟨hin, h1, h2⟩ := cx.in hl
  have hS : (E.a 0 (E.i 20 * 6 + 1).toNat).toNat = 1 := by omega
  have hK : E.a 0 (E.i 20 * 6).toNat = 2 := by omega
  simp only [okIn, inpE, hS, fE, pE, cE, Nat.reduceMul, Nat.reduceAdd] at hin
  omega
theorem w2_40 (cx : Cx 2 E0 E k) : Gl 2 E0 E p2x40 := by
  intro hf
  simp only [facts_cons, p2f29, p2f26, p2f4, p2f3, p2f2, p2f1, p2f0] at hf
  obtain ⟨a0, a1, a2, a3, a4, a5, a6, a7, a8, a9, a10, a11, a12, a13, a14, _⟩ := hf
  simp only [le_t, le_f, lt_t, eq_t, eq_f, d_c, d_v, d_bv, d_add, d_mul, d_rd, d_av, p2e3, p2e6, p2e7, p2e8, p2e9, p2e10, p2e11, p2e12] at a0 a1 a2 a3 a4 a5 a6 a7 a8 a9 a10 a11 a12 a13 a14
  have hl : E.i 20 < E.i 0 := a14
  obtain ⟨hin, h1, h2⟩ := cx.in hl
  obtain ⟨hS, hK, hpc⟩ := sk8 (E := E) (c := 1) (kd := 3) (by omega) (by omega)
  have T6 : ((fE E).p (inpE E).S.toNat).fin ≠ 0 := by rw [hpc]; exact b2i_ne.2 a0
  have hst : stp 1 (fE E) (inpE E) = _ := stp3a hK T6
  (try rw [hpc] at hst)
  refine go8n (.i (.c 0) (.i (.c 0) (.b (.c false) (.b (.c false) (.i (.v 203) (.i (.v 204) (.i (.v 4) (.i (.v 5) .nil)))))))) cx hl hst hS (fun _ => rfl) (fun _ => (al2 rfl rfl)) (code_c hK) ?_ (is_c hK) (also_c hK)
  · rw [num_3a hK T6]; rfl
theorem w2_41 (cx : Cx 2 E0 E k) : Gl 2 E0 E p2x41 := by
  intro hf
  simp only [facts_cons, p2f29, p2f26, p2f4, p2f3, p2f2, p2f1, p2f0] at hf
  obtain ⟨a0, a1, a2, a3, a4, a5, a6, a7, a8, a9, a10, a11, a12, a13, a14, _⟩ := hf
  simp only [le_t, le_f, lt_t, eq_t, eq_f, d_c, d_v, d_bv, d_add, d_mul, d_rd, d_av, p2e3, p2e6, p2e7, p2e8, p2e9, p2e10, p2e11, p2e12] at a0 a1 a2 a3 a4 a5 a6 a7 a8 a9 a10 a11 a12 a13 a14
  have hl : E.i 20 < E.i 0 := a14
  obtain ⟨hin, h1, h2⟩ := cx.in hl
  obtain ⟨hS, hK, hpc⟩ := sk8 (E := E) (c := 1) (kd := 3) (by omega) (by omega)
  have T6 : ((fE E).p (inpE E).S.toNat).fin = 0 := by rw [hpc]; exact b2i_z.2 a0
  have hst : stp 1 (fE E) (inpE E) = _ := stp3b hK T6
  (try rw [hpc] at hst)
  refine go8s (.i (.c 0) (.i p2e95 (.b (.c false) (.b (.c false) (.i p2e91 (.i p2e90 (.i (.v 4) (.i p2e94 .nil)))))))) cx hl hst hS (fun _ => (by (cases E; cases cx.hE; rfl))) (fun _ => (by (cases E; cases cx.hE; rfl))) (fun _ => (ne2b rfl)) (code_c hK) ?_ (is_c hK) (also_c hK) (by (cases E; cases cx.hE; rfl)) (by (cases E; cases cx.hE; rfl)) (by rfl) (by (cases E; cases cx.hE; rfl))
  · rw [num_3b hK T6]; (rw [hpc]; cases E; cases cx.hE; rfl)
theorem w2_42 (cx : Cx 2 E0 E k) : Gl 2 E0 E p2x42 := by
  intro hf
  simp only [facts_cons, p2f29, p2f26, p2f4, p2f3, p2f2, p2f1, p2f0] at hf
  obtain ⟨a0, a1, a2, a3, a4, a5, a6, a7, a8, a9, a10, a11, a12, a13, a14, _⟩ := hf
  simp only [le_t, le_f, lt_t, eq_t, eq_f, d_c, d_v, d_add, d_mul, d_rd, d_av, p2e3, p2e6, p2e7, p2e8, p2e9, p2e10, p2e11, p2e12] at a0 a1 a2 a3 a4 a5 a6 a7 a8 a9 a10 a11 a12 a13 a14
  have hl : E.i 20 < E.i 0 := a14
  obtain ⟨hin, h1, h2⟩ := cx.in hl
  obtain ⟨hS, hK, hpc⟩ := sk8 (E := E) (c := 1) (kd := 4) (by omega) (by omega)
  have hst : stp 1 (fE E) (inpE E) = _ := stp4 hK
  (try rw [hpc] at hst)
  refine go8n (.i (.c 0) (.i p2e50 (.b (.c false) (.b (.c false) (.i (.v 203) (.i (.v 204) (.i p2e49 (.i p2e48 .nil)))))))) cx hl hst hS (fun _ => (by (cases E; cases cx.hE; rfl))) (fun _ => (al2 rfl rfl)) (code_c hK) ?_ (is_c hK) (also_c hK) (by rfl) (by rfl) (by (cases E; cases cx.hE; rfl)) (by (cases E; cases cx.hE; rfl))
  · rw [num_4 hK]; (cases E; cases cx.hE; rfl)
theorem w2_43 (cx : Cx 2 E0 E k) : Gl 2 E0 E p2x43 := by
  intro hf
  simp only [facts_cons, p2f30, p2f29, p2f26, p2f4, p2f3, p2f2, p2f1, p2f0] at hf
  obtain ⟨a0, a1, a2, a3, a4, a5, a6, a7, a8, a9, a10, a11, a12, a13, a14, a15, _⟩ := hf
  simp only [le_t, le_f, lt_t, eq_t, eq_f, d_c, d_v, d_add, d_mul, d_rd, d_av, p2e3, p2e6, p2e7, p2e8, p2e9, p2e10, p2e11, p2e12] at a0 a1 a2 a3 a4 a5 a6 a7 a8 a9 a10 a11 a12 a13 a14 a15
  have hl : E.i 20 < E.i 0 := a15
  obtain ⟨hin, h1, h2⟩ := cx.in hl
  obtain ⟨hS, hK, hpc⟩ := sk8 (E := E) (c := 1) (kd := 5) (by omega) (by omega)
  have hst : stp 1 (fE E) (inpE E) = _ := stp5 hK
  (try rw [hpc] at hst)
  refine go8s (.i (.c 0) (.i (.c 0) (.b (.lt (.v 209) p2e25) (.b (.c false) (.i (.v 203) (.i (.v 204) (.i (.v 4) (.i (.v 5) .nil)))))))) cx hl hst hS (fun _ => rfl) (fun _ => (by (simp only [← imx_max]; rfl))) (fun _ => (ne2b rfl)) (code_c hK) (num_c hK) ?_ (also_c hK)
  · show b2i (((.lt (.v 209) p2e25) : SB).den E) = _
    rw [b2i_iff, is_5 hK]
    (try rw [hpc])
    simp only [pE, inpE, Nat.reduceMul, Nat.reduceAdd, d_c, d_v, d_add, d_mul, d_rd, d_av, p2e3, p2e24, p2e25, lt_t]
    (try done)
theorem w2_44 (cx : Cx 2 E0 E k) : Gl 2 E0 E p2x44 := by
  intro hf
  simp only [facts_cons, p2f30, p2f29, p2f26, p2f4, p2f3, p2f2, p2f1, p2f0] at hf
  obtain ⟨a0, a1, a2, a3, a4, a5, a6, a7, a8, a9, a10, a11, a12, a13, a14, a15, a16, _⟩ := hf
  simp only [le_t, le_f, lt_t, eq_t, eq_f, d_c, d_v, d_add, d_mul, d_rd, d_av, p2e3, p2e6, p2e7, p2e8, p2e9, p2e10, p2e11, p2e12] at a0 a1 a2 a3 a4 a5 a6 a7 a8 a9 a10 a11 a12 a13 a14 a15 a16
  have hl : E.i 20 < E.i 0 := a16
  obtain ⟨hin, h1, h2⟩ := cx.in hl
  obtain ⟨hS, hK, hpc⟩ := sk8 (E := E) (c := 1) (kd := 6) (by omega) (by omega)
  have hst : stp 1 (fE E) (inpE E) = _ := stp6 hK
  (try rw [hpc] at hst)
  refine go8n (.i (.c 0) (.i (.c 0) (.b (.lt (.v 10) p2e25) (.b (.c false) (.i (.v 203) (.i (.v 204) (.i (.v 4) (.i (.v 5) .nil)))))))) cx hl hst hS (fun _ => (by (simp only [← imx_max]; rfl))) (fun _ => (al2 rfl rfl)) (code_c hK) (num_c hK) ?_ (also_c hK)
  · show b2i (((.lt (.v 10) p2e25) : SB).den E) = _
    rw [b2i_iff, is_6 hK]
    (try rw [hpc])
    simp only [fE, cE, inpE, d_c, d_v, d_add, d_mul, d_rd, d_av, p2e3, p2e24, p2e25, lt_t]
    (try done)
theorem w2_45 (cx : Cx 2 E0 E k) : Gl 2 E0 E p2x45 := by
  intro hf
  simp only [facts_cons, p2f33, p2f32, p2f31, p2f30, p2f29, p2f26, p2f4, p2f3, p2f2, p2f1, p2f0] at hf
  obtain ⟨a0, a1, a2, a3, a4, a5, a6, a7, a8, a9, a10, a11, a12, a13, a14, a15, a16, a17, a18, a19, a20, a21, _⟩ := hf
  simp only [le_t, le_f, lt_t, eq_t, eq_f, d_c, d_v, d_add, d_mul, d_rd, d_av, p2e3, p2e6, p2e7, p2e8, p2e9, p2e10, p2e11, p2e12, p2e24, p2e25, p2e57, p2e101] at a0 a1 a2 a3 a4 a5 a6 a7 a8 a9 a10 a11 a12 a13 a14 a15 a16 a17 a18 a19 a20 a21
  have hl : E.i 20 < E.i 0 := a21
  obtain ⟨hin, h1, h2⟩ := cx.in hl
  obtain ⟨hS, hK, hpc⟩ := sk8 (E := E) (c := 1) (kd := 7) (by omega) (by omega)
  have hst : stp 1 (fE E) (inpE E) = _ := stp7 hK
  (try rw [hpc] at hst)
  exact go8s (.i (.c 0) (.i (.c 0) (.b (.c true) (.b (.c false) (.i (.v 203) (.i (.v 204) (.i (.v 4) (.i (.v 5) .nil)))))))) cx hl hst hS (fun _ => (by rfl)) (fun _ => (by rfl)) (fun _ => (ne2b rfl)) (code_c hK) (num_c hK) (by rw [if_pos (is_7 hK)]; rfl) (also_c hK)
theorem w2_46 (cx : Cx 2 E0 E k) : Gl 2 E0 E p2x46 := by
  intro hf
  simp only [facts_cons, p2f33, p2f32, p2f31, p2f30, p2f29, p2f26, p2f4, p2f3, p2f2, p2f1, p2f0] at hf
  obtain ⟨a0, a1, a2, a3, a4, a5, a6, a7, a8, a9, a10, a11, a12, a13, a14, a15, a16, a17, a18, a19, a20, a21, _⟩ := hf
  simp only [le_t, le_f, lt_t, eq_t, eq_f, d_c, d_v, d_add, d_mul, d_rd, d_av, p2e3, p2e6, p2e7, p2e8, p2e9, p2e10, p2e11, p2e12, p2e24, p2e25, p2e57, p2e101] at a0 a1 a2 a3 a4 a5 a6 a7 a8 a9 a10 a11 a12 a13 a14 a15 a16 a17 a18 a19 a20 a21
  have hl : E.i 20 < E.i 0 := a21
  obtain ⟨hin, h1, h2⟩ := cx.in hl
  have hS : (E.a 0 (E.i 20 * 6 + 1).toNat).toNat = 1 := by omega
  have hK : E.a 0 (E.i 20 * 6).toNat = 7 := by omega
  simp only [okIn, inpE, hS, fE, pE, cE, Nat.reduceMul, Nat.reduceAdd] at hin
  omega
theorem w2_47 (cx : Cx 2 E0 E k) : Gl 2 E0 E p2x47 := by
  intro hf
  simp only [facts_cons, p2f32, p2f31, p2f30, p2f29, p2f26, p2f4, p2f3, p2f2, p2f1, p2f0] at hf
  obtain ⟨a0, a1, a2, a3, a4, a5, a6, a7, a8, a9, a10, a11, a12, a13, a14, a15, a16, a17, a18, a19, a20, _⟩ := hf
  simp only [le_t, le_f, lt_t, eq_t, eq_f, d_c, d_v, d_add, d_mul, d_rd, d_av, p2e3, p2e6, p2e7, p2e8, p2e9, p2e10, p2e11, p2e12, p2e24, p2e25, p2e101] at a0 a1 a2 a3 a4 a5 a6 a7 a8 a9 a10 a11 a12 a13 a14 a15 a16 a17 a18 a19 a20
  have hl : E.i 20 < E.i 0 := a20
  obtain ⟨hin, h1, h2⟩ := cx.in hl
  have hS : (E.a 0 (E.i 20 * 6 + 1).toNat).toNat = 1 := by omega
  have hK : E.a 0 (E.i 20 * 6).toNat = 7 := by omega
  simp only [okIn, inpE, hS, fE, pE, cE, Nat.reduceMul, Nat.reduceAdd] at hin
  omega
theorem w2_48 (cx : Cx 2 E0 E k) : Gl 2 E0 E p2x48 := by
  intro hf
  simp only [facts_cons, p2f32, p2f31, p2f30, p2f29, p2f26, p2f4, p2f3, p2f2, p2f1, p2f0] at hf
  obtain ⟨a0, a1, a2, a3, a4, a5, a6, a7, a8, a9, a10, a11, a12, a13, a14, a15, a16, a17, a18, a19, _⟩ := hf
  simp only [le_t, le_f, lt_t, eq_t, eq_f, d_c, d_v, d_add, d_mul, d_rd, d_av, p2e3, p2e6, p2e7, p2e8, p2e9, p2e10, p2e11, p2e12, p2e24, p2e25] at a0 a1 a2 a3 a4 a5 a6 a7 a8 a9 a10 a11 a12 a13 a14 a15 a16 a17 a18 a19
  have hl : E.i 20 < E.i 0 := a19
  obtain ⟨hin, h1, h2⟩ := cx.in hl
  have hS : (E.a 0 (E.i 20 * 6 + 1).toNat).toNat = 1 := by omega
  have hK : E.a 0 (E.i 20 * 6).toNat = 7 := by omega
  simp only [okIn, inpE, hS, fE, pE, cE, Nat.reduceMul, Nat.reduceAdd] at hin
  omega
theorem w2_49 (cx : Cx 2 E0 E k) : Gl 2 E0 E p2x49 := by
  intro hf
  simp only [facts_cons, p2f31, p2f30, p2f29, p2f26, p2f4, p2f3, p2f2, p2f1, p2f0] at hf
  obtain ⟨a0, a1, a2, a3, a4, a5, a6, a7, a8, a9, a10, a11, a12, a13, a14, a15, a16, a17, a18, _⟩ := hf
  simp only [le_t, le_f, lt_t, eq_t, eq_f, d_c, d_v, d_add, d_mul, d_rd, d_av, p2e3, p2e6, p2e7, p2e8, p2e9, p2e10, p2e11, p2e12, p2e24, p2e25] at a0 a1 a2 a3 a4 a5 a6 a7 a8 a9 a10 a11 a12 a13 a14 a15 a16 a17 a18
  have hl : E.i 20 < E.i 0 := a18
  obtain ⟨hin, h1, h2⟩ := cx.in hl
  have hS : (E.a 0 (E.i 20 * 6 + 1).toNat).toNat = 1 := by omega
  have hK : E.a 0 (E.i 20 * 6).toNat = 7 := by omega
  simp only [okIn, inpE, hS, fE, pE, cE, Nat.reduceMul, Nat.reduceAdd] at hin
  omega
theorem w2_50 (cx : Cx 2 E0 E k) : Gl 2 E0 E p2x50 := by
  intro hf
  simp only [facts_cons, p2f31, p2f30, p2f29, p2f26, p2f4, p2f3, p2f2, p2f1, p2f0] at hf
  obtain ⟨a0, a1, a2, a3, a4, a5, a6, a7, a8, a9, a10, a11, a12, a13, a14, a15, a16, a17, a18, _⟩ := hf
  simp only [le_t, le_f, lt_t, eq_t, eq_f, d_c, d_v, d_add, d_mul, d_rd, d_av, p2e3, p2e6, p2e7, p2e8, p2e9, p2e10, p2e11, p2e12] at a0 a1 a2 a3 a4 a5 a6 a7 a8 a9 a10 a11 a12 a13 a14 a15 a16 a17 a18
  have hl : E.i 20 < E.i 0 := a18
  obtain ⟨hin, h1, h2⟩ := cx.in hl
  obtain ⟨hS, hK, hpc⟩ := sk8 (E := E) (c := 1) (kd := 8) (by omega) (by omega)
  have hst : stp 1 (fE E) (inpE E) = _ := stp8 hK
  (try rw [hpc] at hst)
  refine go8n (.i (.c 0) (.i p2e104 (.b (.c false) (.b (.c false) (.i (.v 203) (.i (.v 204) (.i (.v 4) (.i (.v 5) .nil)))))))) cx hl hst hS (fun _ => rfl) (fun _ => (al2 rfl rfl)) (code_c hK) ?_ (is_c hK) (also_c hK)
  · rw [num_8 hK]; (show (p2e104 : SE).den E = _; rw [hpc]; (simp only [fE, cE, pE, Nat.reduceMul, Nat.reduceAdd, d_v, d_sub, d_mn, p2e60, p2e103, p2e104, imn_min]; done))
theorem w2_51 (cx : Cx 2 E0 E k) : Gl 2 E0 E p2x51 := by
  intro hf
  simp only [facts_cons, p2f34, p2f31, p2f30, p2f29, p2f26, p2f4, p2f3, p2f2, p2f1, p2f0] at hf
  obtain ⟨a0, a1, a2, a3, a4, a5, a6, a7, a8, a9, a10, a11, a12, a13, a14, a15, a16, a17, a18, a19, _⟩ := hf
  simp only [le_t, le_f, lt_t, eq_t, eq_f, d_c, d_v, d_add, d_mul, d_rd, d_av, p2e3, p2e6, p2e7, p2e8, p2e9, p2e10, p2e11, p2e12] at a0 a1 a2 a3 a4 a5 a6 a7 a8 a9 a10 a11 a12 a13 a14 a15 a16 a17 a18 a19
  have hl : E.i 20 < E.i 0 := a19
  obtain ⟨hin, h1, h2⟩ := cx.in hl
  obtain ⟨hS, hK, hpc⟩ := sk8 (E := E) (c := 1) (kd := 9) (by omega) (by omega)
  have hst : stp 1 (fE E) (inpE E) = _ := stp9 hK
  (try rw [hpc] at hst)
  refine go8s (.i (.c 0) (.i (.c 0) (.b (.and (.not (.lt (.v 208) (.v 209))) (.not (.eq (.v 209) (.v 210)))) (.b (.c false) (.i (.v 203) (.i (.v 204) (.i (.v 4) (.i (.v 5) .nil)))))))) cx hl hst hS (fun _ => rfl) (fun _ => (by (show (⟨((.v 201) : SE).den E, ((.v 202) : SE).den E, ((.v 203) : SE).den E, ((.v 204) : SE).den E, ((.v 205) : SE).den E, ((.v 206) : SE).den E, ((.v 207) : SE).den E, ((.v 208) : SE).den E, ((.v 209) : SE).den E, (p2e106 : SE).den E, b2i (((.v 3) : SB).den E), 0⟩ : P1) = _; (simp only [blkP, pE, Nat.reduceMul, Nat.reduceAdd, d_v, d_bv, d_ite, p2e106, ite_lt]; rfl)))) (fun _ => (ne2b rfl)) (code_c hK) (num_c hK) ?_ (also_c hK)
  · show b2i (((.and (.not (.lt (.v 208) (.v 209))) (.not (.eq (.v 209) (.v 210)))) : SB).den E) = _
    rw [b2i_iff, is_9 hK]
    (try rw [hpc])
    simp only [newB, pE, Nat.reduceMul, Nat.reduceAdd, Int.not_lt, d_v, and_t, not_t, lt_f, eq_f, ne_eq]
    (try done)
theorem w2_52 (cx : Cx 2 E0 E k) : Gl 2 E0 E p2x52 := by
  intro hf
  simp only [facts_cons, p2f34, p2f31, p2f30, p2f29, p2f26, p2f4, p2f3, p2f2, p2f1, p2f0] at hf
  obtain ⟨a0, a1, a2, a3, a4, a5, a6, a7, a8, a9, a10, a11, a12, a13, a14, a15, a16, a17, a18, a19, a20, _⟩ := hf
  simp only [le_t, le_f, lt_t, eq_t, eq_f, d_c, d_v, d_add, d_mul, d_rd, d_av, p2e3, p2e6, p2e7, p2e8, p2e9, p2e10, p2e11, p2e12] at a0 a1 a2 a3 a4 a5 a6 a7 a8 a9 a10 a11 a12 a13 a14 a15 a16 a17 a18 a19 a20
  have hl : E.i 20 < E.i 0 := a20
  obtain ⟨hin, h1, h2⟩ := cx.in hl
  obtain ⟨hS, hK, hpc⟩ := sk8 (E := E) (c := 1) (kd := 10) (by omega) (by omega)
  have hst : stp 1 (fE E) (inpE E) = _ := stp10 hK
  (try rw [hpc] at hst)
  refine go8n (.i (.c 0) (.i p2e66 (.b (.and (.not (.lt (.v 9) (.v 10))) (.not (.eq (.v 10) (.v 11)))) (.b (.c false) (.i (.v 203) (.i (.v 204) (.i (.v 4) (.i (.v 5) .nil)))))))) cx hl hst hS (fun _ => (by (show (⟨((.v 2) : SE).den E, ((.v 3) : SE).den E, ((.v 4) : SE).den E, ((.v 5) : SE).den E, ((.v 6) : SE).den E, ((.v 7) : SE).den E, ((.v 8) : SE).den E, ((.v 9) : SE).den E, ((.v 10) : SE).den E, (p2e65 : SE).den E, 0, 0⟩ : P1) = _; (simp only [blkP, fE, cE, d_v, d_ite, p2e65, ite_lt]; rfl)))) (fun _ => (al2 rfl rfl)) (code_c hK) ?_ ?_ (also_c hK)
  · rw [num_10 hK]; (show (p2e66 : SE).den E = _; simp only [newB, fE, cE, Int.not_lt, d_c, d_v, d_ite, p2e66, and_t, not_t, lt_f, eq_f, ne_eq]; done)
  · show b2i (((.and (.not (.lt (.v 9) (.v 10))) (.not (.eq (.v 10) (.v 11)))) : SB).den E) = _
    rw [b2i_iff, is_10 hK]
    (try rw [hpc])
    simp only [newB, fE, cE, Int.not_lt, d_v, and_t, not_t, lt_f, eq_f, ne_eq]
    (try done)
theorem w2_53 (cx : Cx 2 E0 E k) : Gl 2 E0 E p2x53 := by
  intro hf
  simp only [facts_cons, p2f36, p2f35, p2f34, p2f31, p2f30, p2f29, p2f26, p2f4, p2f3, p2f2, p2f1, p2f0] at hf
  obtain ⟨a0, a1, a2, a3, a4, a5, a6, a7, a8, a9, a10, a11, a12, a13, a14, a15, a16, a17, a18, a19, a20, a21, a22, a23, a24, _⟩ := hf
  simp only [le_t, le_f, lt_t, eq_t, eq_f, d_c, d_v, d_bv, d_add, d_mul, d_rd, d_av, p2e3, p2e6, p2e7, p2e8, p2e9, p2e10, p2e11, p2e12, p2e24, p2e25] at a0 a1 a2 a3 a4 a5 a6 a7 a8 a9 a10 a11 a12 a13 a14 a15 a16 a17 a18 a19 a20 a21 a22 a23 a24
  have hl : E.i 20 < E.i 0 := a24
  obtain ⟨hin, h1, h2⟩ := cx.in hl
  have hS : (E.a 0 (E.i 20 * 6 + 1).toNat).toNat = 1 := by omega
  have hK : E.a 0 (E.i 20 * 6).toNat = 11 := by omega
  simp only [okIn, inpE, hS, fE, pE, cE, Nat.reduceMul, Nat.reduceAdd] at hin
  (cases hb : E.b 1 <;> simp only [hb, b2i, Bool.false_eq_true, ↓reduceIte] at a0 hin <;> omega)
theorem w2_54 (cx : Cx 2 E0 E k) : Gl 2 E0 E p2x54 := by
  intro hf
  simp only [facts_cons, p2f36, p2f35, p2f34, p2f31, p2f30, p2f29, p2f26, p2f4, p2f3, p2f2, p2f1, p2f0] at hf
  obtain ⟨a0, a1, a2, a3, a4, a5, a6, a7, a8, a9, a10, a11, a12, a13, a14, a15, a16, a17, a18, a19, a20, a21, a22, a23, a24, _⟩ := hf
  simp only [le_t, le_f, lt_t, eq_t, eq_f, d_c, d_v, d_bv, d_add, d_mul, d_rd, d_av, p2e3, p2e6, p2e7, p2e8, p2e9, p2e10, p2e11, p2e12, p2e24, p2e25] at a0 a1 a2 a3 a4 a5 a6 a7 a8 a9 a10 a11 a12 a13 a14 a15 a16 a17 a18 a19 a20 a21 a22 a23 a24
  have hl : E.i 20 < E.i 0 := a24
  obtain ⟨hin, h1, h2⟩ := cx.in hl
  obtain ⟨hS, hK, hpc⟩ := sk8 (E := E) (c := 1) (kd := 11) (by omega) (by omega)
  have hst : stp 1 (fE E) (inpE E) = _ := stp11 hK
  (try rw [hpc] at hst)
  exact go8n (.i (.c 0) (.i (.c 0) (.b (.c false) (.b (.c false) (.i (.v 203) (.i (.v 204) (.i (.v 4) (.i (.v 5) .nil)))))))) cx hl hst hS (fun _ => rfl) (fun _ => (al2 rfl rfl)) (code_c hK) (num_c hK) (is_c hK) (also_c hK)
theorem w2_55 (cx : Cx 2 E0 E k) : Gl 2 E0 E p2x55 := by
  intro hf
  simp only [facts_cons, p2f36, p2f35, p2f34, p2f31, p2f30, p2f29, p2f26, p2f4, p2f3, p2f2, p2f1, p2f0] at hf
  obtain ⟨a0, a1, a2, a3, a4, a5, a6, a7, a8, a9, a10, a11, a12, a13, a14, a15, a16, a17, a18, a19, a20, a21, a22, a23, _⟩ := hf
  simp only [le_t, le_f, lt_t, eq_t, eq_f, d_c, d_v, d_add, d_mul, d_rd, d_av, p2e3, p2e6, p2e7, p2e8, p2e9, p2e10, p2e11, p2e12, p2e24, p2e25] at a0 a1 a2 a3 a4 a5 a6 a7 a8 a9 a10 a11 a12 a13 a14 a15 a16 a17 a18 a19 a20 a21 a22 a23
  have hl : E.i 20 < E.i 0 := a23
  obtain ⟨hin, h1, h2⟩ := cx.in hl
  have hS : (E.a 0 (E.i 20 * 6 + 1).toNat).toNat = 1 := by omega
  have hK : E.a 0 (E.i 20 * 6).toNat = 11 := by omega
  simp only [okIn, inpE, hS, fE, pE, cE, Nat.reduceMul, Nat.reduceAdd] at hin
  omega
theorem w2_56 (cx : Cx 2 E0 E k) : Gl 2 E0 E p2x56 := by
  intro hf
  simp only [facts_cons, p2f35, p2f34, p2f31, p2f30, p2f29, p2f26, p2f4, p2f3, p2f2, p2f1, p2f0] at hf
  obtain ⟨a0, a1, a2, a3, a4, a5, a6, a7, a8, a9, a10, a11, a12, a13, a14, a15, a16, a17, a18, a19, a20, a21, a22, _⟩ := hf
  simp only [le_t, le_f, lt_t, eq_t, eq_f, d_c, d_v, d_add, d_mul, d_rd, d_av, p2e3, p2e6, p2e7, p2e8, p2e9, p2e10, p2e11, p2e12, p2e24, p2e25] at a0 a1 a2 a3 a4 a5 a6 a7 a8 a9 a10 a11 a12 a13 a14 a15 a16 a17 a18 a19 a20 a21 a22
  have hl : E.i 20 < E.i 0 := a22
  obtain ⟨hin, h1, h2⟩ := cx.in hl
  have hS : (E.a 0 (E.i 20 * 6 + 1).toNat).toNat = 1 := by omega
  have hK : E.a 0 (E.i 20 * 6).toNat = 11 := by omega
  simp only [okIn, inpE, hS, fE, pE, cE, Nat.reduceMul, Nat.reduceAdd] at hin
  omega
theorem w2_57 (cx : Cx 2 E0 E k) : Gl 2 E0 E p2x57 := by
  intro hf
  simp only [facts_cons, p2f35, p2f34, p2f31, p2f30, p2f29, p2f26, p2f4, p2f3, p2f2, p2f1, p2f0] at hf
  obtain ⟨a0, a1, a2, a3, a4, a5, a6, a7, a8, a9, a10, a11, a12, a13, a14, a15, a16, a17, a18, a19, a20, a21, _⟩ := hf
  simp only [le_t, le_f, lt_t, eq_f, d_c, d_v, d_add, d_mul, d_rd, d_av, p2e3, p2e6, p2e7, p2e8, p2e9, p2e10, p2e11, p2e12] at a0 a1 a2 a3 a4 a5 a6 a7 a8 a9 a10 a11 a12 a13 a14 a15 a16 a17 a18 a19 a20 a21
  have hl : E.i 20 < E.i 0 := a21
  obtain ⟨hin, h1, h2⟩ := cx.in hl
  exfalso; omega
theorem w2_58 (cx : Cx 2 E0 E k) : Gl 2 E0 E p2x58 := by
  intro hf
  simp only [facts_cons, p2f3, p2f2, p2f1, p2f0] at hf
  obtain ⟨a0, a1, a2, a3, a4, a5, a6, a7, a8, _⟩ := hf
  simp only [le_t, le_f, lt_t, d_c, d_v, d_add, d_mul, d_rd, d_av, p2e3, p2e6, p2e7, p2e8, p2e9, p2e10, p2e11, p2e12] at a0 a1 a2 a3 a4 a5 a6 a7 a8
  have hl : E.i 20 < E.i 0 := a8
  obtain ⟨hin, h1, h2⟩ := cx.in hl
  simp only [okIn, inpE] at hin
  omega
theorem w2_59 (cx : Cx 2 E0 E k) : Gl 2 E0 E p2x59 := by
  intro hf
  simp only [facts_cons, p2f2, p2f1, p2f0] at hf
  obtain ⟨a0, a1, a2, a3, a4, a5, a6, a7, _⟩ := hf
  simp only [le_t, le_f, lt_t, d_c, d_v, d_add, d_mul, d_rd, d_av, p2e3, p2e6, p2e7, p2e8, p2e9, p2e10, p2e11, p2e12] at a0 a1 a2 a3 a4 a5 a6 a7
  have hl : E.i 20 < E.i 0 := a7
  obtain ⟨hin, h1, h2⟩ := cx.in hl
  simp only [okIn, inpE] at hin
  omega
theorem w2_60 (cx : Cx 2 E0 E k) : Gl 2 E0 E p2x60 := by
  intro hf
  simp only [facts_cons, p2f2, p2f1, p2f0] at hf
  obtain ⟨a0, a1, a2, a3, a4, a5, a6, _⟩ := hf
  simp only [le_t, le_f, lt_t, d_c, d_v, d_add, d_mul, d_rd, d_av, p2e3, p2e6, p2e7, p2e8, p2e9, p2e10] at a0 a1 a2 a3 a4 a5 a6
  have hl : E.i 20 < E.i 0 := a6
  obtain ⟨hin, h1, h2⟩ := cx.in hl
  simp only [okIn, inpE] at hin
  omega
theorem w2_61 (cx : Cx 2 E0 E k) : Gl 2 E0 E p2x61 := by
  intro hf
  simp only [facts_cons, p2f1, p2f0] at hf
  obtain ⟨a0, a1, a2, a3, a4, a5, _⟩ := hf
  simp only [le_t, le_f, lt_t, d_c, d_v, d_add, d_mul, d_rd, d_av, p2e3, p2e6, p2e7, p2e8, p2e9, p2e10] at a0 a1 a2 a3 a4 a5
  have hl : E.i 20 < E.i 0 := a5
  obtain ⟨hin, h1, h2⟩ := cx.in hl
  simp only [okIn, inpE] at hin
  omega
theorem w2_62 (cx : Cx 2 E0 E k) : Gl 2 E0 E p2x62 := by
  intro hf
  simp only [facts_cons, p2f1, p2f0] at hf
  obtain ⟨a0, a1, a2, a3, a4, _⟩ := hf
  simp only [le_t, le_f, lt_t, d_c, d_v, d_add, d_mul, d_rd, d_av, p2e3, p2e8, p2e9, p2e10] at a0 a1 a2 a3 a4
  have hl : E.i 20 < E.i 0 := a4
  obtain ⟨hin, h1, h2⟩ := cx.in hl
  simp only [okIn, inpE] at hin
  omega
theorem w2_63 (cx : Cx 2 E0 E k) : Gl 2 E0 E p2x63 := by
  intro hf
  simp only [facts_cons, p2f0] at hf
  obtain ⟨a0, a1, a2, a3, _⟩ := hf
  simp only [le_t, le_f, lt_t, d_c, d_v, d_add, d_mul, d_rd, d_av, p2e3, p2e8, p2e9, p2e10] at a0 a1 a2 a3
  have hl : E.i 20 < E.i 0 := a3
  obtain ⟨hin, h1, h2⟩ := cx.in hl
  simp only [okIn, inpE] at hin
  omega
theorem w2_64 (cx : Cx 2 E0 E k) : Gl 2 E0 E p2x64 := by
  intro hf
  simp only [facts_cons, p2f0] at hf
  obtain ⟨a0, a1, a2, _⟩ := hf
  simp only [le_t, le_f, lt_t, d_c, d_v, d_mul, d_rd, d_av, p2e3, p2e8] at a0 a1 a2
  have hl : E.i 20 < E.i 0 := a2
  obtain ⟨hin, h1, h2⟩ := cx.in hl
  simp only [okIn, inpE] at hin
  omega
theorem w2_65 (cx : Cx 2 E0 E k) : Gl 2 E0 E p2x65 := by
  intro hf
  simp only [facts_cons] at hf
  obtain ⟨a0, a1, _⟩ := hf
  simp only [le_f, lt_t, d_c, d_v, d_mul, d_rd, d_av, p2e3, p2e8] at a0 a1
  have hl : E.i 20 < E.i 0 := a1
  obtain ⟨hin, h1, h2⟩ := cx.in hl
  simp only [okIn, inpE] at hin
  omega
theorem w2_66 (cx : Cx 2 E0 E k) : Gl 2 E0 E p2x66 := by
  intro hf
  have hn := (fat hf 0 rfl)
  simp only [lt_f, d_v] at hn
  exact ⟨rfl, out8 cx hn⟩
theorem ct8_2 : CtOk Tryd.prog fns (ct8 2) := by
  refine ct_of_pts (p := prm8 2 Tryd.prog) (pts := pts8 2 Tryd.prog) (n := 1200) (c0 := enterD (prm8 2 Tryd.prog) (ct8 2)) (fun E hE => prm8_ok 2 E hE) rfl (by intro q hq; cases hq) Tryd.func8 (by kernel_rfl) ?_ (J8 2) mu8 a2ls a2run ?_ ?_
  · intro t ht
    simp only [pts8, List.mem_cons, List.not_mem_nil, or_false] at ht
    subst ht
    exact ⟨by kernel_rfl, by decide⟩
  · intro E hE hF
    obtain ⟨b1, b2, hst⟩ := pre8 hE hF
    refine ⟨noFacts (by simp [ct8]), fun x hx => ?_⟩
    unfold a2ls at hx
    simp only [List.mem_cons, List.not_mem_nil, or_false] at hx
    subst hx
    intro hf
    refine ⟨⟨_, rfl, .inl ⟨rfl, rfl⟩⟩, fun o => ⟨⟨0, ⟨rfl, rfl, b1.1, rfl, rfl, ⟨?_, fun i hi => ?_, rfl, rfl⟩, fun j hj => by omega⟩⟩, fun b hb => by cases hb⟩⟩
    · show (⟨0, 0, E.i 12, E.i 12, E.i 13, 0, 0, 0, imx 0 (E.i 14), 0, 0, 0⟩ : P1) = _
      rw [imx_max]; rfl
    · have hi3 : i = 0 ∨ i = 1 := by omega
      rcases hi3 with rfl | rfl
      all_goals rfl
  · intro k t ht
    have hk : k = 0 := by
      have := (List.getElem?_eq_some_iff.1 ht).1
      simp [pts8] at this; omega
    subst hk
    refine ⟨p2ls, by rw [← ptD_some ht (ct8 2).g]; exact p2run, fun E0 E hE0 hE hF0 ⟨i, hI⟩ => ?_⟩
    obtain ⟨b1, b2, hst⟩ := pre8 hE0 hF0
    have hle := hI.le; have h0 := hI.h0; have h20 := hI.h20
    obtain ⟨g1, g2, g3⟩ := good8 hI hst
    refine ⟨?_, fun x hx => ?_⟩
    · obtain rfl := Option.some.inj ht
      have u0 := g2 0 (by omega)
      have u1 := g2 1 (by omega)
      simp only [okP, fE, cE, pE] at g1 g3 u0 u1
      simp only [strR, conF, rttF, bd, List.range, List.range.loop, List.map_cons, List.map_nil, List.flatten_cons, List.flatten_nil, List.cons_append, List.nil_append, List.append_nil, facts_cons, facts_nil, le_t, d_c, d_v, and_true]
      omega
    · unfold p2ls at hx
      simp only [List.mem_cons, List.not_mem_nil, or_false] at hx
      rcases hx with rfl | rfl | rfl | rfl | rfl | rfl | rfl | rfl | rfl | rfl | rfl | rfl | rfl | rfl | rfl | rfl | rfl | rfl | rfl | rfl | rfl | rfl | rfl | rfl | rfl | rfl | rfl | rfl | rfl | rfl | rfl | rfl | rfl | rfl | rfl | rfl | rfl | rfl | rfl | rfl | rfl | rfl | rfl | rfl | rfl | rfl | rfl | rfl | rfl | rfl | rfl | rfl | rfl | rfl | rfl | rfl | rfl | rfl | rfl | rfl | rfl | rfl | rfl | rfl | rfl | rfl | rfl
      · exact w2_0 ⟨hE0, hE, hI, hst⟩
      · exact w2_1 ⟨hE0, hE, hI, hst⟩
      · exact w2_2 ⟨hE0, hE, hI, hst⟩
      · exact w2_3 ⟨hE0, hE, hI, hst⟩
      · exact w2_4 ⟨hE0, hE, hI, hst⟩
      · exact w2_5 ⟨hE0, hE, hI, hst⟩
      · exact w2_6 ⟨hE0, hE, hI, hst⟩
      · exact w2_7 ⟨hE0, hE, hI, hst⟩
      · exact w2_8 ⟨hE0, hE, hI, hst⟩
      · exact w2_9 ⟨hE0, hE, hI, hst⟩
      · exact w2_10 ⟨hE0, hE, hI, hst⟩
      · exact w2_11 ⟨hE0, hE, hI, hst⟩
      · exact w2_12 ⟨hE0, hE, hI, hst⟩
      · exact w2_13 ⟨hE0, hE, hI, hst⟩
      · exact w2_14 ⟨hE0, hE, hI, hst⟩
      · exact w2_15 ⟨hE0, hE, hI, hst⟩
      · exact w2_16 ⟨hE0, hE, hI, hst⟩
      · exact w2_17 ⟨hE0, hE, hI, hst⟩
      · exact w2_18 ⟨hE0, hE, hI, hst⟩
      · exact w2_19 ⟨hE0, hE, hI, hst⟩
      · exact w2_20 ⟨hE0, hE, hI, hst⟩
      · exact w2_21 ⟨hE0, hE, hI, hst⟩
      · exact w2_22 ⟨hE0, hE, hI, hst⟩
      · exact w2_23 ⟨hE0, hE, hI, hst⟩
      · exact w2_24 ⟨hE0, hE, hI, hst⟩
      · exact w2_25 ⟨hE0, hE, hI, hst⟩
      · exact w2_26 ⟨hE0, hE, hI, hst⟩
      · exact w2_27 ⟨hE0, hE, hI, hst⟩
      · exact w2_28 ⟨hE0, hE, hI, hst⟩
      · exact w2_29 ⟨hE0, hE, hI, hst⟩
      · exact w2_30 ⟨hE0, hE, hI, hst⟩
      · exact w2_31 ⟨hE0, hE, hI, hst⟩
      · exact w2_32 ⟨hE0, hE, hI, hst⟩
      · exact w2_33 ⟨hE0, hE, hI, hst⟩
      · exact w2_34 ⟨hE0, hE, hI, hst⟩
      · exact w2_35 ⟨hE0, hE, hI, hst⟩
      · exact w2_36 ⟨hE0, hE, hI, hst⟩
      · exact w2_37 ⟨hE0, hE, hI, hst⟩
      · exact w2_38 ⟨hE0, hE, hI, hst⟩
      · exact w2_39 ⟨hE0, hE, hI, hst⟩
      · exact w2_40 ⟨hE0, hE, hI, hst⟩
      · exact w2_41 ⟨hE0, hE, hI, hst⟩
      · exact w2_42 ⟨hE0, hE, hI, hst⟩
      · exact w2_43 ⟨hE0, hE, hI, hst⟩
      · exact w2_44 ⟨hE0, hE, hI, hst⟩
      · exact w2_45 ⟨hE0, hE, hI, hst⟩
      · exact w2_46 ⟨hE0, hE, hI, hst⟩
      · exact w2_47 ⟨hE0, hE, hI, hst⟩
      · exact w2_48 ⟨hE0, hE, hI, hst⟩
      · exact w2_49 ⟨hE0, hE, hI, hst⟩
      · exact w2_50 ⟨hE0, hE, hI, hst⟩
      · exact w2_51 ⟨hE0, hE, hI, hst⟩
      · exact w2_52 ⟨hE0, hE, hI, hst⟩
      · exact w2_53 ⟨hE0, hE, hI, hst⟩
      · exact w2_54 ⟨hE0, hE, hI, hst⟩
      · exact w2_55 ⟨hE0, hE, hI, hst⟩
      · exact w2_56 ⟨hE0, hE, hI, hst⟩
      · exact w2_57 ⟨hE0, hE, hI, hst⟩
      · exact w2_58 ⟨hE0, hE, hI, hst⟩
      · exact w2_59 ⟨hE0, hE, hI, hst⟩
      · exact w2_60 ⟨hE0, hE, hI, hst⟩
      · exact w2_61 ⟨hE0, hE, hI, hst⟩
      · exact w2_62 ⟨hE0, hE, hI, hst⟩
      · exact w2_63 ⟨hE0, hE, hI, hst⟩
      · exact w2_64 ⟨hE0, hE, hI, hst⟩
      · exact w2_65 ⟨hE0, hE, hI, hst⟩
      · exact w2_66 ⟨hE0, hE, hI, hst⟩
end Go.Proofs.YtpjifimjoinnnaaDoor
