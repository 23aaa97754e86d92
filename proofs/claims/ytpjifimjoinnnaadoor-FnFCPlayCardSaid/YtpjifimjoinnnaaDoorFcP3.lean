/- Ways of the play with 3 streams. -/
import Derived.Test.YtpjifimjoinnnaaDoorFcI
import Derived.Test.YtpjifimjoinnnaaDoorFcQ3
import Derived.Test.YtpjifimjoinnnaaDoorFcP3a
import Derived.KernelRfl
set_option autoImplicit true
set_option relaxedAutoImplicit true
set_option linter.unusedVariables false
set_option linter.unusedSimpArgs false
set_option maxRecDepth 100000
set_option maxHeartbeats 4000000
namespace Go.Proofs.YtpjifimjoinnnaaDoor
open Go Go.Sy Go.RowKit
variable {E0 E : Env} {k : Nat}
theorem w3_70 (cx : Cx 3 E0 E k) : Gl 3 E0 E p3x70 := by
  intro hf
  simp only [facts_cons, p3f44, p3f43, p3f37, p3f4, p3f3, p3f2, p3f1, p3f0] at hf
  obtain ⟨a0, a1, a2, a3, a4, a5, a6, a7, a8, a9, a10, a11, a12, a13, a14, a15, _⟩ := hf
  simp only [le_t, le_f, lt_t, eq_t, eq_f, d_c, d_v, d_bv, d_add, d_mul, d_rd, d_av, p3e3, p3e6, p3e7, p3e8, p3e9, p3e10, p3e11, p3e12] at a0 a1 a2 a3 a4 a5 a6 a7 a8 a9 a10 a11 a12 a13 a14 a15
  have hl : E.i 20 < E.i 0 := a15
  obtain ⟨hin, h1, h2⟩ := cx.in hl
  obtain ⟨hS, hK, hpc⟩ := sk8 (E := E) (c := 2) (kd := 3) (by omega) (by omega)
  have T6 : ((fE E).p (inpE E).S.toNat).fin = 0 := by rw [hpc]; exact b2i_z.2 a0
  have hst : stp 1 (fE E) (inpE E) = _ := stp3b hK T6
  (try rw [hpc] at hst)
  refine go8s (.i (.c 0) (.i p3e135 (.b (.c false) (.b (.c false) (.i p3e131 (.i p3e130 (.i (.v 4) (.i p3e134 .nil)))))))) cx hl hst hS (fun _ => (by (cases E; cases cx.hE; rfl))) (fun _ => (by (cases E; cases cx.hE; rfl))) (fun _ => (ne3c rfl rfl)) (code_c hK) ?_ (is_c hK) (also_c hK) (by (cases E; cases cx.hE; rfl)) (by (cases E; cases cx.hE; rfl)) (by rfl) (by (cases E; cases cx.hE; rfl))
  · rw [num_3b hK T6]; (rw [hpc]; cases E; cases cx.hE; rfl)
theorem w3_71 (cx : Cx 3 E0 E k) : Gl 3 E0 E p3x71 := by
  intro hf
  simp only [facts_cons, p3f45, p3f43, p3f37, p3f4, p3f3, p3f2, p3f1, p3f0] at hf
  obtain ⟨a0, a1, a2, a3, a4, a5, a6, a7, a8, a9, a10, a11, a12, a13, a14, a15, _⟩ := hf
  simp only [le_t, le_f, lt_t, eq_t, eq_f, d_c, d_v, d_add, d_mul, d_rd, d_av, p3e3, p3e6, p3e7, p3e8, p3e9, p3e10, p3e11, p3e12] at a0 a1 a2 a3 a4 a5 a6 a7 a8 a9 a10 a11 a12 a13 a14 a15
  have hl : E.i 20 < E.i 0 := a15
  obtain ⟨hin, h1, h2⟩ := cx.in hl
  obtain ⟨hS, hK, hpc⟩ := sk8 (E := E) (c := 2) (kd := 4) (by omega) (by omega)
  have hst : stp 1 (fE E) (inpE E) = _ := stp4 hK
  (try rw [hpc] at hst)
  refine go8n (.i (.c 0) (.i p3e50 (.b (.c false) (.b (.c false) (.i (.v 303) (.i (.v 304) (.i p3e49 (.i p3e48 .nil)))))))) cx hl hst hS (fun _ => (by (cases E; cases cx.hE; rfl))) (fun _ => (al3 rfl rfl rfl)) (code_c hK) ?_ (is_c hK) (also_c hK) (by rfl) (by rfl) (by (cases E; cases cx.hE; rfl)) (by (cases E; cases cx.hE; rfl))
  · rw [num_4 hK]; (cases E; cases cx.hE; rfl)
theorem w3_72 (cx : Cx 3 E0 E k) : Gl 3 E0 E p3x72 := by
  intro hf
  simp only [facts_cons, p3f45, p3f43, p3f37, p3f4, p3f3, p3f2, p3f1, p3f0] at hf
  obtain ⟨a0, a1, a2, a3, a4, a5, a6, a7, a8, a9, a10, a11, a12, a13, a14, a15, a16, _⟩ := hf
  simp only [le_t, le_f, lt_t, eq_t, eq_f, d_c, d_v, d_add, d_mul, d_rd, d_av, p3e3, p3e6, p3e7, p3e8, p3e9, p3e10, p3e11, p3e12] at a0 a1 a2 a3 a4 a5 a6 a7 a8 a9 a10 a11 a12 a13 a14 a15 a16
  have hl : E.i 20 < E.i 0 := a16
  obtain ⟨hin, h1, h2⟩ := cx.in hl
  obtain ⟨hS, hK, hpc⟩ := sk8 (E := E) (c := 2) (kd := 5) (by omega) (by omega)
  have hst : stp 1 (fE E) (inpE E) = _ := stp5 hK
  (try rw [hpc] at hst)
  refine go8s (.i (.c 0) (.i (.c 0) (.b (.lt (.v 309) p3e25) (.b (.c false) (.i (.v 303) (.i (.v 304) (.i (.v 4) (.i (.v 5) .nil)))))))) cx hl hst hS (fun _ => rfl) (fun _ => (by (simp only [← imx_max]; rfl))) (fun _ => (ne3c rfl rfl)) (code_c hK) (num_c hK) ?_ (also_c hK)
  · show b2i (((.lt (.v 309) p3e25) : SB).den E) = _
    rw [b2i_iff, is_5 hK]
    (try rw [hpc])
    simp only [pE, inpE, Nat.reduceMul, Nat.reduceAdd, d_c, d_v, d_add, d_mul, d_rd, d_av, p3e3, p3e24, p3e25, lt_t]
    (try done)
theorem w3_73 (cx : Cx 3 E0 E k) : Gl 3 E0 E p3x73 := by
  intro hf
  simp only [facts_cons, p3f46, p3f45, p3f43, p3f37, p3f4, p3f3, p3f2, p3f1, p3f0] at hf
  obtain ⟨a0, a1, a2, a3, a4, a5, a6, a7, a8, a9, a10, a11, a12, a13, a14, a15, a16, a17, _⟩ := hf
  simp only [le_t, le_f, lt_t, eq_t, eq_f, d_c, d_v, d_add, d_mul, d_rd, d_av, p3e3, p3e6, p3e7, p3e8, p3e9, p3e10, p3e11, p3e12] at a0 a1 a2 a3 a4 a5 a6 a7 a8 a9 a10 a11 a12 a13 a14 a15 a16 a17
  have hl : E.i 20 < E.i 0 := a17
  obtain ⟨hin, h1, h2⟩ := cx.in hl
  obtain ⟨hS, hK, hpc⟩ := sk8 (E := E) (c := 2) (kd := 6) (by omega) (by omega)
  have hst : stp 1 (fE E) (inpE E) = _ := stp6 hK
  (try rw [hpc] at hst)
  refine go8n (.i (.c 0) (.i (.c 0) (.b (.lt (.v 10) p3e25) (.b (.c false) (.i (.v 303) (.i (.v 304) (.i (.v 4) (.i (.v 5) .nil)))))))) cx hl hst hS (fun _ => (by (simp only [← imx_max]; rfl))) (fun _ => (al3 rfl rfl rfl)) (code_c hK) (num_c hK) ?_ (also_c hK)
  · show b2i (((.lt (.v 10) p3e25) : SB).den E) = _
    rw [b2i_iff, is_6 hK]
    (try rw [hpc])
    simp only [fE, cE, inpE, d_c, d_v, d_add, d_mul, d_rd, d_av, p3e3, p3e24, p3e25, lt_t]
    (try done)
theorem w3_74 (cx : Cx 3 E0 E k) : Gl 3 E0 E p3x74 := by
  intro hf
  simp only [facts_cons, p3f48, p3f47, p3f46, p3f45, p3f43, p3f37, p3f4, p3f3, p3f2, p3f1, p3f0] at hf
  obtain ⟨a0, a1, a2, a3, a4, a5, a6, a7, a8, a9, a10, a11, a12, a13, a14, a15, a16, a17, a18, a19, a20, a21, a22, _⟩ := hf
  simp only [le_t, le_f, lt_t, eq_t, eq_f, d_c, d_v, d_add, d_mul, d_rd, d_av, p3e3, p3e6, p3e7, p3e8, p3e9, p3e10, p3e11, p3e12, p3e24, p3e25, p3e57, p3e141] at a0 a1 a2 a3 a4 a5 a6 a7 a8 a9 a10 a11 a12 a13 a14 a15 a16 a17 a18 a19 a20 a21 a22
  have hl : E.i 20 < E.i 0 := a22
  obtain ⟨hin, h1, h2⟩ := cx.in hl
  obtain ⟨hS, hK, hpc⟩ := sk8 (E := E) (c := 2) (kd := 7) (by omega) (by omega)
  have hst : stp 1 (fE E) (inpE E) = _ := stp7 hK
  (try rw [hpc] at hst)
  exact go8s (.i (.c 0) (.i (.c 0) (.b (.c true) (.b (.c false) (.i (.v 303) (.i (.v 304) (.i (.v 4) (.i (.v 5) .nil)))))))) cx hl hst hS (fun _ => (by rfl)) (fun _ => (by rfl)) (fun _ => (ne3c rfl rfl)) (code_c hK) (num_c hK) (by rw [if_pos (is_7 hK)]; rfl) (also_c hK)
theorem w3_75 (cx : Cx 3 E0 E k) : Gl 3 E0 E p3x75 := by
  intro hf
  simp only [facts_cons, p3f48, p3f47, p3f46, p3f45, p3f43, p3f37, p3f4, p3f3, p3f2, p3f1, p3f0] at hf
  obtain ⟨a0, a1, a2, a3, a4, a5, a6, a7, a8, a9, a10, a11, a12, a13, a14, a15, a16, a17, a18, a19, a20, a21, a22, _⟩ := hf
  simp only [le_t, le_f, lt_t, eq_t, eq_f, d_c, d_v, d_add, d_mul, d_rd, d_av, p3e3, p3e6, p3e7, p3e8, p3e9, p3e10, p3e11, p3e12, p3e24, p3e25, p3e57, p3e141] at a0 a1 a2 a3 a4 a5 a6 a7 a8 a9 a10 a11 a12 a13 a14 a15 a16 a17 a18 a19 a20 a21 a22
  have hl : E.i 20 < E.i 0 := a22
  obtain ⟨hin, h1, h2⟩ := cx.in hl
  have hS : (E.a 0 (E.i 20 * 6 + 1).toNat).toNat = 2 := by omega
  have hK : E.a 0 (E.i 20 * 6).toNat = 7 := by omega
  simp only [okIn, inpE, hS, fE, pE, cE, Nat.reduceMul, Nat.reduceAdd] at hin
  omega
theorem w3_76 (cx : Cx 3 E0 E k) : Gl 3 E0 E p3x76 := by
  intro hf
  simp only [facts_cons, p3f48, p3f47, p3f46, p3f45, p3f43, p3f37, p3f4, p3f3, p3f2, p3f1, p3f0] at hf
  obtain ⟨a0, a1, a2, a3, a4, a5, a6, a7, a8, a9, a10, a11, a12, a13, a14, a15, a16, a17, a18, a19, a20, a21, _⟩ := hf
  simp only [le_t, le_f, lt_t, eq_t, eq_f, d_c, d_v, d_add, d_mul, d_rd, d_av, p3e3, p3e6, p3e7, p3e8, p3e9, p3e10, p3e11, p3e12, p3e24, p3e25, p3e141] at a0 a1 a2 a3 a4 a5 a6 a7 a8 a9 a10 a11 a12 a13 a14 a15 a16 a17 a18 a19 a20 a21
  have hl : E.i 20 < E.i 0 := a21
  obtain ⟨hin, h1, h2⟩ := cx.in hl
  have hS : (E.a 0 (E.i 20 * 6 + 1).toNat).toNat = 2 := by omega
  have hK : E.a 0 (E.i 20 * 6).toNat = 7 := by omega
  simp only [okIn, inpE, hS, fE, pE, cE, Nat.reduceMul, Nat.reduceAdd] at hin
  omega
theorem w3_77 (cx : Cx 3 E0 E k) : Gl 3 E0 E p3x77 := by
  intro hf
  simp only [facts_cons, p3f47, p3f46, p3f45, p3f43, p3f37, p3f4, p3f3, p3f2, p3f1, p3f0] at hf
  obtain ⟨a0, a1, a2, a3, a4, a5, a6, a7, a8, a9, a10, a11, a12, a13, a14, a15, a16, a17, a18, a19, a20, _⟩ := hf
  simp only [le_t, le_f, lt_t, eq_t, eq_f, d_c, d_v, d_add, d_mul, d_rd, d_av, p3e3, p3e6, p3e7, p3e8, p3e9, p3e10, p3e11, p3e12, p3e24, p3e25] at a0 a1 a2 a3 a4 a5 a6 a7 a8 a9 a10 a11 a12 a13 a14 a15 a16 a17 a18 a19 a20
  have hl : E.i 20 < E.i 0 := a20
  obtain ⟨hin, h1, h2⟩ := cx.in hl
  have hS : (E.a 0 (E.i 20 * 6 + 1).toNat).toNat = 2 := by omega
  have hK : E.a 0 (E.i 20 * 6).toNat = 7 := by omega
  simp only [okIn, inpE, hS, fE, pE, cE, Nat.reduceMul, Nat.reduceAdd] at hin
  omega
theorem w3_78 (cx : Cx 3 E0 E k) : Gl 3 E0 E p3x78 := by
  intro hf
  simp only [facts_cons, p3f47, p3f46, p3f45, p3f43, p3f37, p3f4, p3f3, p3f2, p3f1, p3f0] at hf
  obtain ⟨a0, a1, a2, a3, a4, a5, a6, a7, a8, a9, a10, a11, a12, a13, a14, a15, a16, a17, a18, a19, _⟩ := hf
  simp only [le_t, le_f, lt_t, eq_t, eq_f, d_c, d_v, d_add, d_mul, d_rd, d_av, p3e3, p3e6, p3e7, p3e8, p3e9, p3e10, p3e11, p3e12, p3e24, p3e25] at a0 a1 a2 a3 a4 a5 a6 a7 a8 a9 a10 a11 a12 a13 a14 a15 a16 a17 a18 a19
  have hl : E.i 20 < E.i 0 := a19
  obtain ⟨hin, h1, h2⟩ := cx.in hl
  have hS : (E.a 0 (E.i 20 * 6 + 1).toNat).toNat = 2 := by omega
  have hK : E.a 0 (E.i 20 * 6).toNat = 7 := by omega
  simp only [okIn, inpE, hS, fE, pE, cE, Nat.reduceMul, Nat.reduceAdd] at hin
  omega
theorem w3_79 (cx : Cx 3 E0 E k) : Gl 3 E0 E p3x79 := by
  intro hf
  simp only [facts_cons, p3f49, p3f46, p3f45, p3f43, p3f37, p3f4, p3f3, p3f2, p3f1, p3f0] at hf
  obtain ⟨a0, a1, a2, a3, a4, a5, a6, a7, a8, a9, a10, a11, a12, a13, a14, a15, a16, a17, a18, a19, _⟩ := hf
  simp only [le_t, le_f, lt_t, eq_t, eq_f, d_c, d_v, d_add, d_mul, d_rd, d_av, p3e3, p3e6, p3e7, p3e8, p3e9, p3e10, p3e11, p3e12] at a0 a1 a2 a3 a4 a5 a6 a7 a8 a9 a10 a11 a12 a13 a14 a15 a16 a17 a18 a19
  have hl : E.i 20 < E.i 0 := a19
  obtain ⟨hin, h1, h2⟩ := cx.in hl
  obtain ⟨hS, hK, hpc⟩ := sk8 (E := E) (c := 2) (kd := 8) (by omega) (by omega)
  have hst : stp 1 (fE E) (inpE E) = _ := stp8 hK
  (try rw [hpc] at hst)
  refine go8n (.i (.c 0) (.i p3e144 (.b (.c false) (.b (.c false) (.i (.v 303) (.i (.v 304) (.i (.v 4) (.i (.v 5) .nil)))))))) cx hl hst hS (fun _ => rfl) (fun _ => (al3 rfl rfl rfl)) (code_c hK) ?_ (is_c hK) (also_c hK)
  · rw [num_8 hK]; (show (p3e144 : SE).den E = _; rw [hpc]; (simp only [fE, cE, pE, Nat.reduceMul, Nat.reduceAdd, d_v, d_sub, d_mn, p3e60, p3e143, p3e144, imn_min]; done))
theorem w3_80 (cx : Cx 3 E0 E k) : Gl 3 E0 E p3x80 := by
  intro hf
  simp only [facts_cons, p3f49, p3f46, p3f45, p3f43, p3f37, p3f4, p3f3, p3f2, p3f1, p3f0] at hf
  obtain ⟨a0, a1, a2, a3, a4, a5, a6, a7, a8, a9, a10, a11, a12, a13, a14, a15, a16, a17, a18, a19, a20, _⟩ := hf
  simp only [le_t, le_f, lt_t, eq_t, eq_f, d_c, d_v, d_add, d_mul, d_rd, d_av, p3e3, p3e6, p3e7, p3e8, p3e9, p3e10, p3e11, p3e12] at a0 a1 a2 a3 a4 a5 a6 a7 a8 a9 a10 a11 a12 a13 a14 a15 a16 a17 a18 a19 a20
  have hl : E.i 20 < E.i 0 := a20
  obtain ⟨hin, h1, h2⟩ := cx.in hl
  obtain ⟨hS, hK, hpc⟩ := sk8 (E := E) (c := 2) (kd := 9) (by omega) (by omega)
  have hst : stp 1 (fE E) (inpE E) = _ := stp9 hK
  (try rw [hpc] at hst)
  refine go8s (.i (.c 0) (.i (.c 0) (.b (.and (.not (.lt (.v 308) (.v 309))) (.not (.eq (.v 309) (.v 310)))) (.b (.c false) (.i (.v 303) (.i (.v 304) (.i (.v 4) (.i (.v 5) .nil)))))))) cx hl hst hS (fun _ => rfl) (fun _ => (by (show (⟨((.v 301) : SE).den E, ((.v 302) : SE).den E, ((.v 303) : SE).den E, ((.v 304) : SE).den E, ((.v 305) : SE).den E, ((.v 306) : SE).den E, ((.v 307) : SE).den E, ((.v 308) : SE).den E, ((.v 309) : SE).den E, (p3e146 : SE).den E, b2i (((.v 4) : SB).den E), 0⟩ : P1) = _; (simp only [blkP, pE, Nat.reduceMul, Nat.reduceAdd, d_v, d_bv, d_ite, p3e146, ite_lt]; rfl)))) (fun _ => (ne3c rfl rfl)) (code_c hK) (num_c hK) ?_ (also_c hK)
  · show b2i (((.and (.not (.lt (.v 308) (.v 309))) (.not (.eq (.v 309) (.v 310)))) : SB).den E) = _
    rw [b2i_iff, is_9 hK]
    (try rw [hpc])
    simp only [newB, pE, Nat.reduceMul, Nat.reduceAdd, Int.not_lt, d_v, and_t, not_t, lt_f, eq_f, ne_eq]
    (try done)
theorem w3_81 (cx : Cx 3 E0 E k) : Gl 3 E0 E p3x81 := by
  intro hf
  simp only [facts_cons, p3f50, p3f49, p3f46, p3f45, p3f43, p3f37, p3f4, p3f3, p3f2, p3f1, p3f0] at hf
  obtain ⟨a0, a1, a2, a3, a4, a5, a6, a7, a8, a9, a10, a11, a12, a13, a14, a15, a16, a17, a18, a19, a20, a21, _⟩ := hf
  simp only [le_t, le_f, lt_t, eq_t, eq_f, d_c, d_v, d_add, d_mul, d_rd, d_av, p3e3, p3e6, p3e7, p3e8, p3e9, p3e10, p3e11, p3e12] at a0 a1 a2 a3 a4 a5 a6 a7 a8 a9 a10 a11 a12 a13 a14 a15 a16 a17 a18 a19 a20 a21
  have hl : E.i 20 < E.i 0 := a21
  obtain ⟨hin, h1, h2⟩ := cx.in hl
  obtain ⟨hS, hK, hpc⟩ := sk8 (E := E) (c := 2) (kd := 10) (by omega) (by omega)
  have hst : stp 1 (fE E) (inpE E) = _ := stp10 hK
  (try rw [hpc] at hst)
  refine go8n (.i (.c 0) (.i p3e66 (.b (.and (.not (.lt (.v 9) (.v 10))) (.not (.eq (.v 10) (.v 11)))) (.b (.c false) (.i (.v 303) (.i (.v 304) (.i (.v 4) (.i (.v 5) .nil)))))))) cx hl hst hS (fun _ => (by (show (⟨((.v 2) : SE).den E, ((.v 3) : SE).den E, ((.v 4) : SE).den E, ((.v 5) : SE).den E, ((.v 6) : SE).den E, ((.v 7) : SE).den E, ((.v 8) : SE).den E, ((.v 9) : SE).den E, ((.v 10) : SE).den E, (p3e65 : SE).den E, 0, 0⟩ : P1) = _; (simp only [blkP, fE, cE, d_v, d_ite, p3e65, ite_lt]; rfl)))) (fun _ => (al3 rfl rfl rfl)) (code_c hK) ?_ ?_ (also_c hK)
  · rw [num_10 hK]; (show (p3e66 : SE).den E = _; simp only [newB, fE, cE, Int.not_lt, d_c, d_v, d_ite, p3e66, and_t, not_t, lt_f, eq_f, ne_eq]; done)
  · show b2i (((.and (.not (.lt (.v 9) (.v 10))) (.not (.eq (.v 10) (.v 11)))) : SB).den E) = _
    rw [b2i_iff, is_10 hK]
    (try rw [hpc])
    simp only [newB, fE, cE, Int.not_lt, d_v, and_t, not_t, lt_f, eq_f, ne_eq]
    (try done)
theorem w3_82 (cx : Cx 3 E0 E k) : Gl 3 E0 E p3x82 := by
  intro hf
  simp only [facts_cons, p3f52, p3f51, p3f50, p3f49, p3f46, p3f45, p3f43, p3f37, p3f4, p3f3, p3f2, p3f1, p3f0] at hf
  obtain ⟨a0, a1, a2, a3, a4, a5, a6, a7, a8, a9, a10, a11, a12, a13, a14, a15, a16, a17, a18, a19, a20, a21, a22, a23, a24, a25, _⟩ := hf
  simp only [le_t, le_f, lt_t, eq_t, eq_f, d_c, d_v, d_bv, d_add, d_mul, d_rd, d_av, p3e3, p3e6, p3e7, p3e8, p3e9, p3e10, p3e11, p3e12, p3e24, p3e25] at a0 a1 a2 a3 a4 a5 a6 a7 a8 a9 a10 a11 a12 a13 a14 a15 a16 a17 a18 a19 a20 a21 a22 a23 a24 a25
  have hl : E.i 20 < E.i 0 := a25
  obtain ⟨hin, h1, h2⟩ := cx.in hl
  have hS : (E.a 0 (E.i 20 * 6 + 1).toNat).toNat = 2 := by omega
  have hK : E.a 0 (E.i 20 * 6).toNat = 11 := by omega
  simp only [okIn, inpE, hS, fE, pE, cE, Nat.reduceMul, Nat.reduceAdd] at hin
  (cases hb : E.b 1 <;> simp only [hb, b2i, Bool.false_eq_true, ↓reduceIte] at a0 hin <;> omega)
theorem w3_83 (cx : Cx 3 E0 E k) : Gl 3 E0 E p3x83 := by
  intro hf
  simp only [facts_cons, p3f52, p3f51, p3f50, p3f49, p3f46, p3f45, p3f43, p3f37, p3f4, p3f3, p3f2, p3f1, p3f0] at hf
  obtain ⟨a0, a1, a2, a3, a4, a5, a6, a7, a8, a9, a10, a11, a12, a13, a14, a15, a16, a17, a18, a19, a20, a21, a22, a23, a24, a25, _⟩ := hf
  simp only [le_t, le_f, lt_t, eq_t, eq_f, d_c, d_v, d_bv, d_add, d_mul, d_rd, d_av, p3e3, p3e6, p3e7, p3e8, p3e9, p3e10, p3e11, p3e12, p3e24, p3e25] at a0 a1 a2 a3 a4 a5 a6 a7 a8 a9 a10 a11 a12 a13 a14 a15 a16 a17 a18 a19 a20 a21 a22 a23 a24 a25
  have hl : E.i 20 < E.i 0 := a25
  obtain ⟨hin, h1, h2⟩ := cx.in hl
  obtain ⟨hS, hK, hpc⟩ := sk8 (E := E) (c := 2) (kd := 11) (by omega) (by omega)
  have hst : stp 1 (fE E) (inpE E) = _ := stp11 hK
  (try rw [hpc] at hst)
  exact go8n (.i (.c 0) (.i (.c 0) (.b (.c false) (.b (.c false) (.i (.v 303) (.i (.v 304) (.i (.v 4) (.i (.v 5) .nil)))))))) cx hl hst hS (fun _ => rfl) (fun _ => (al3 rfl rfl rfl)) (code_c hK) (num_c hK) (is_c hK) (also_c hK)
theorem w3_84 (cx : Cx 3 E0 E k) : Gl 3 E0 E p3x84 := by
  intro hf
  simp only [facts_cons, p3f51, p3f50, p3f49, p3f46, p3f45, p3f43, p3f37, p3f4, p3f3, p3f2, p3f1, p3f0] at hf
  obtain ⟨a0, a1, a2, a3, a4, a5, a6, a7, a8, a9, a10, a11, a12, a13, a14, a15, a16, a17, a18, a19, a20, a21, a22, a23, a24, _⟩ := hf
  simp only [le_t, le_f, lt_t, eq_t, eq_f, d_c, d_v, d_add, d_mul, d_rd, d_av, p3e3, p3e6, p3e7, p3e8, p3e9, p3e10, p3e11, p3e12, p3e24, p3e25] at a0 a1 a2 a3 a4 a5 a6 a7 a8 a9 a10 a11 a12 a13 a14 a15 a16 a17 a18 a19 a20 a21 a22 a23 a24
  have hl : E.i 20 < E.i 0 := a24
  obtain ⟨hin, h1, h2⟩ := cx.in hl
  have hS : (E.a 0 (E.i 20 * 6 + 1).toNat).toNat = 2 := by omega
  have hK : E.a 0 (E.i 20 * 6).toNat = 11 := by omega
  simp only [okIn, inpE, hS, fE, pE, cE, Nat.reduceMul, Nat.reduceAdd] at hin
  omega
theorem w3_85 (cx : Cx 3 E0 E k) : Gl 3 E0 E p3x85 := by
  intro hf
  simp only [facts_cons, p3f51, p3f50, p3f49, p3f46, p3f45, p3f43, p3f37, p3f4, p3f3, p3f2, p3f1, p3f0] at hf
  obtain ⟨a0, a1, a2, a3, a4, a5, a6, a7, a8, a9, a10, a11, a12, a13, a14, a15, a16, a17, a18, a19, a20, a21, a22, a23, _⟩ := hf
  simp only [le_t, le_f, lt_t, eq_t, eq_f, d_c, d_v, d_add, d_mul, d_rd, d_av, p3e3, p3e6, p3e7, p3e8, p3e9, p3e10, p3e11, p3e12, p3e24, p3e25] at a0 a1 a2 a3 a4 a5 a6 a7 a8 a9 a10 a11 a12 a13 a14 a15 a16 a17 a18 a19 a20 a21 a22 a23
  have hl : E.i 20 < E.i 0 := a23
  obtain ⟨hin, h1, h2⟩ := cx.in hl
  have hS : (E.a 0 (E.i 20 * 6 + 1).toNat).toNat = 2 := by omega
  have hK : E.a 0 (E.i 20 * 6).toNat = 11 := by omega
  simp only [okIn, inpE, hS, fE, pE, cE, Nat.reduceMul, Nat.reduceAdd] at hin
  omega
theorem w3_86 (cx : Cx 3 E0 E k) : Gl 3 E0 E p3x86 := by
  intro hf
  simp only [facts_cons, p3f50, p3f49, p3f46, p3f45, p3f43, p3f37, p3f4, p3f3, p3f2, p3f1, p3f0] at hf
  obtain ⟨a0, a1, a2, a3, a4, a5, a6, a7, a8, a9, a10, a11, a12, a13, a14, a15, a16, a17, a18, a19, a20, a21, a22, _⟩ := hf
  simp only [le_t, le_f, lt_t, eq_f, d_c, d_v, d_add, d_mul, d_rd, d_av, p3e3, p3e6, p3e7, p3e8, p3e9, p3e10, p3e11, p3e12] at a0 a1 a2 a3 a4 a5 a6 a7 a8 a9 a10 a11 a12 a13 a14 a15 a16 a17 a18 a19 a20 a21 a22
  have hl : E.i 20 < E.i 0 := a22
  obtain ⟨hin, h1, h2⟩ := cx.in hl
  exfalso; omega
theorem w3_87 (cx : Cx 3 E0 E k) : Gl 3 E0 E p3x87 := by
  intro hf
  simp only [facts_cons, p3f3, p3f2, p3f1, p3f0] at hf
  obtain ⟨a0, a1, a2, a3, a4, a5, a6, a7, a8, _⟩ := hf
  simp only [le_t, le_f, lt_t, d_c, d_v, d_add, d_mul, d_rd, d_av, p3e3, p3e6, p3e7, p3e8, p3e9, p3e10, p3e11, p3e12] at a0 a1 a2 a3 a4 a5 a6 a7 a8
  have hl : E.i 20 < E.i 0 := a8
  obtain ⟨hin, h1, h2⟩ := cx.in hl
  simp only [okIn, inpE] at hin
  omega
theorem w3_88 (cx : Cx 3 E0 E k) : Gl 3 E0 E p3x88 := by
  intro hf
  simp only [facts_cons, p3f2, p3f1, p3f0] at hf
  obtain ⟨a0, a1, a2, a3, a4, a5, a6, a7, _⟩ := hf
  simp only [le_t, le_f, lt_t, d_c, d_v, d_add, d_mul, d_rd, d_av, p3e3, p3e6, p3e7, p3e8, p3e9, p3e10, p3e11, p3e12] at a0 a1 a2 a3 a4 a5 a6 a7
  have hl : E.i 20 < E.i 0 := a7
  obtain ⟨hin, h1, h2⟩ := cx.in hl
  simp only [okIn, inpE] at hin
  omega
theorem w3_89 (cx : Cx 3 E0 E k) : Gl 3 E0 E p3x89 := by
  intro hf
  simp only [facts_cons, p3f2, p3f1, p3f0] at hf
  obtain ⟨a0, a1, a2, a3, a4, a5, a6, _⟩ := hf
  simp only [le_t, le_f, lt_t, d_c, d_v, d_add, d_mul, d_rd, d_av, p3e3, p3e6, p3e7, p3e8, p3e9, p3e10] at a0 a1 a2 a3 a4 a5 a6
  have hl : E.i 20 < E.i 0 := a6
  obtain ⟨hin, h1, h2⟩ := cx.in hl
  simp only [okIn, inpE] at hin
  omega
theorem w3_90 (cx : Cx 3 E0 E k) : Gl 3 E0 E p3x90 := by
  intro hf
  simp only [facts_cons, p3f1, p3f0] at hf
  obtain ⟨a0, a1, a2, a3, a4, a5, _⟩ := hf
  simp only [le_t, le_f, lt_t, d_c, d_v, d_add, d_mul, d_rd, d_av, p3e3, p3e6, p3e7, p3e8, p3e9, p3e10] at a0 a1 a2 a3 a4 a5
  have hl : E.i 20 < E.i 0 := a5
  obtain ⟨hin, h1, h2⟩ := cx.in hl
  simp only [okIn, inpE] at hin
  omega
theorem w3_91 (cx : Cx 3 E0 E k) : Gl 3 E0 E p3x91 := by
  intro hf
  simp only [facts_cons, p3f1, p3f0] at hf
  obtain ⟨a0, a1, a2, a3, a4, _⟩ := hf
  simp only [le_t, le_f, lt_t, d_c, d_v, d_add, d_mul, d_rd, d_av, p3e3, p3e8, p3e9, p3e10] at a0 a1 a2 a3 a4
  have hl : E.i 20 < E.i 0 := a4
  obtain ⟨hin, h1, h2⟩ := cx.in hl
  simp only [okIn, inpE] at hin
  omega
theorem w3_92 (cx : Cx 3 E0 E k) : Gl 3 E0 E p3x92 := by
  intro hf
  simp only [facts_cons, p3f0] at hf
  obtain ⟨a0, a1, a2, a3, _⟩ := hf
  simp only [le_t, le_f, lt_t, d_c, d_v, d_add, d_mul, d_rd, d_av, p3e3, p3e8, p3e9, p3e10] at a0 a1 a2 a3
  have hl : E.i 20 < E.i 0 := a3
  obtain ⟨hin, h1, h2⟩ := cx.in hl
  simp only [okIn, inpE] at hin
  omega
theorem w3_93 (cx : Cx 3 E0 E k) : Gl 3 E0 E p3x93 := by
  intro hf
  simp only [facts_cons, p3f0] at hf
  obtain ⟨a0, a1, a2, _⟩ := hf
  simp only [le_t, le_f, lt_t, d_c, d_v, d_mul, d_rd, d_av, p3e3, p3e8] at a0 a1 a2
  have hl : E.i 20 < E.i 0 := a2
  obtain ⟨hin, h1, h2⟩ := cx.in hl
  simp only [okIn, inpE] at hin
  omega
theorem w3_94 (cx : Cx 3 E0 E k) : Gl 3 E0 E p3x94 := by
  intro hf
  simp only [facts_cons] at hf
  obtain ⟨a0, a1, _⟩ := hf
  simp only [le_f, lt_t, d_c, d_v, d_mul, d_rd, d_av, p3e3, p3e8] at a0 a1
  have hl : E.i 20 < E.i 0 := a1
  obtain ⟨hin, h1, h2⟩ := cx.in hl
  simp only [okIn, inpE] at hin
  omega
theorem w3_95 (cx : Cx 3 E0 E k) : Gl 3 E0 E p3x95 := by
  intro hf
  have hn := (fat hf 0 rfl)
  simp only [lt_f, d_v] at hn
  exact ⟨rfl, out8 cx hn⟩
theorem ct8_3 : CtOk Tryd.prog fns (ct8 3) := by
  refine ct_of_pts (p := prm8 3 Tryd.prog) (pts := pts8 3 Tryd.prog) (n := 1200) (c0 := enterD (prm8 3 Tryd.prog) (ct8 3)) (fun E hE => prm8_ok 3 E hE) rfl (by intro q hq; cases hq) Tryd.func8 (by kernel_rfl) ?_ (J8 3) mu8 a3ls a3run ?_ ?_
  · intro t ht
    simp only [pts8, List.mem_cons, List.not_mem_nil, or_false] at ht
    subst ht
    exact ⟨by kernel_rfl, by decide⟩
  · intro E hE hF
    obtain ⟨b1, b2, hst⟩ := pre8 hE hF
    refine ⟨noFacts (by simp [ct8]), fun x hx => ?_⟩
    unfold a3ls at hx
    simp only [List.mem_cons, List.not_mem_nil, or_false] at hx
    subst hx
    intro hf
    refine ⟨⟨_, rfl, .inl ⟨rfl, rfl⟩⟩, fun o => ⟨⟨0, ⟨rfl, rfl, b1.1, rfl, rfl, ⟨?_, fun i hi => ?_, rfl, rfl⟩, fun j hj => by omega⟩⟩, fun b hb => by cases hb⟩⟩
    · show (⟨0, 0, E.i 12, E.i 12, E.i 13, 0, 0, 0, imx 0 (E.i 14), 0, 0, 0⟩ : P1) = _
      rw [imx_max]; rfl
    · have hi3 : i = 0 ∨ i = 1 ∨ i = 2 := by omega
      rcases hi3 with rfl | rfl | rfl
      all_goals rfl
  · intro k t ht
    have hk : k = 0 := by
      have := (List.getElem?_eq_some_iff.1 ht).1
      simp [pts8] at this; omega
    subst hk
    refine ⟨p3ls, by rw [← ptD_some ht (ct8 3).g]; exact p3run, fun E0 E hE0 hE hF0 ⟨i, hI⟩ => ?_⟩
    obtain ⟨b1, b2, hst⟩ := pre8 hE0 hF0
    have hle := hI.le; have h0 := hI.h0; have h20 := hI.h20
    obtain ⟨g1, g2, g3⟩ := good8 hI hst
    refine ⟨?_, fun x hx => ?_⟩
    · obtain rfl := Option.some.inj ht
      have u0 := g2 0 (by omega)
      have u1 := g2 1 (by omega)
      have u2 := g2 2 (by omega)
      simp only [okP, fE, cE, pE] at g1 g3 u0 u1 u2
      simp only [strR, conF, rttF, bd, List.range, List.range.loop, List.map_cons, List.map_nil, List.flatten_cons, List.flatten_nil, List.cons_append, List.nil_append, List.append_nil, facts_cons, facts_nil, le_t, d_c, d_v, and_true]
      omega
    · unfold p3ls at hx
      simp only [List.mem_cons, List.not_mem_nil, or_false] at hx
      rcases hx with rfl | rfl | rfl | rfl | rfl | rfl | rfl | rfl | rfl | rfl | rfl | rfl | rfl | rfl | rfl | rfl | rfl | rfl | rfl | rfl | rfl | rfl | rfl | rfl | rfl | rfl | rfl | rfl | rfl | rfl | rfl | rfl | rfl | rfl | rfl | rfl | rfl | rfl | rfl | rfl | rfl | rfl | rfl | rfl | rfl | rfl | rfl | rfl | rfl | rfl | rfl | rfl | rfl | rfl | rfl | rfl | rfl | rfl | rfl | rfl | rfl | rfl | rfl | rfl | rfl | rfl | rfl | rfl | rfl | rfl | rfl | rfl | rfl | rfl | rfl | rfl | rfl | rfl | rfl | rfl | rfl | rfl | rfl | rfl | rfl | rfl | rfl | rfl | rfl | rfl | rfl | rfl | rfl | rfl | rfl | rfl
      · exact w3_0 ⟨hE0, hE, hI, hst⟩
      · exact w3_1 ⟨hE0, hE, hI, hst⟩
      · exact w3_2 ⟨hE0, hE, hI, hst⟩
      · exact w3_3 ⟨hE0, hE, hI, hst⟩
      · exact w3_4 ⟨hE0, hE, hI, hst⟩
      · exact w3_5 ⟨hE0, hE, hI, hst⟩
      · exact w3_6 ⟨hE0, hE, hI, hst⟩
      · exact w3_7 ⟨hE0, hE, hI, hst⟩
      · exact w3_8 ⟨hE0, hE, hI, hst⟩
      · exact w3_9 ⟨hE0, hE, hI, hst⟩
      · exact w3_10 ⟨hE0, hE, hI, hst⟩
      · exact w3_11 ⟨hE0, hE, hI, hst⟩
      · exact w3_12 ⟨hE0, hE, hI, hst⟩
      · exact w3_13 ⟨hE0, hE, hI, hst⟩
      · exact w3_14 ⟨hE0, hE, hI, hst⟩
      · exact w3_15 ⟨hE0, hE, hI, hst⟩
      · exact w3_16 ⟨hE0, hE, hI, hst⟩
      · exact w3_17 ⟨hE0, hE, hI, hst⟩
      · exact w3_18 ⟨hE0, hE, hI, hst⟩
      · exact w3_19 ⟨hE0, hE, hI, hst⟩
      · exact w3_20 ⟨hE0, hE, hI, hst⟩
      · exact w3_21 ⟨hE0, hE, hI, hst⟩
      · exact w3_22 ⟨hE0, hE, hI, hst⟩
      · exact w3_23 ⟨hE0, hE, hI, hst⟩
      · exact w3_24 ⟨hE0, hE, hI, hst⟩
      · exact w3_25 ⟨hE0, hE, hI, hst⟩
      · exact w3_26 ⟨hE0, hE, hI, hst⟩
      · exact w3_27 ⟨hE0, hE, hI, hst⟩
      · exact w3_28 ⟨hE0, hE, hI, hst⟩
      · exact w3_29 ⟨hE0, hE, hI, hst⟩
      · exact w3_30 ⟨hE0, hE, hI, hst⟩
      · exact w3_31 ⟨hE0, hE, hI, hst⟩
      · exact w3_32 ⟨hE0, hE, hI, hst⟩
      · exact w3_33 ⟨hE0, hE, hI, hst⟩
      · exact w3_34 ⟨hE0, hE, hI, hst⟩
      · exact w3_35 ⟨hE0, hE, hI, hst⟩
      · exact w3_36 ⟨hE0, hE, hI, hst⟩
      · exact w3_37 ⟨hE0, hE, hI, hst⟩
      · exact w3_38 ⟨hE0, hE, hI, hst⟩
      · exact w3_39 ⟨hE0, hE, hI, hst⟩
      · exact w3_40 ⟨hE0, hE, hI, hst⟩
      · exact w3_41 ⟨hE0, hE, hI, hst⟩
      · exact w3_42 ⟨hE0, hE, hI, hst⟩
      · exact w3_43 ⟨hE0, hE, hI, hst⟩
      · exact w3_44 ⟨hE0, hE, hI, hst⟩
      · exact w3_45 ⟨hE0, hE, hI, hst⟩
      · exact w3_46 ⟨hE0, hE, hI, hst⟩
      · exact w3_47 ⟨hE0, hE, hI, hst⟩
      · exact w3_48 ⟨hE0, hE, hI, hst⟩
      · exact w3_49 ⟨hE0, hE, hI, hst⟩
      · exact w3_50 ⟨hE0, hE, hI, hst⟩
      · exact w3_51 ⟨hE0, hE, hI, hst⟩
      · exact w3_52 ⟨hE0, hE, hI, hst⟩
      · exact w3_53 ⟨hE0, hE, hI, hst⟩
      · exact w3_54 ⟨hE0, hE, hI, hst⟩
      · exact w3_55 ⟨hE0, hE, hI, hst⟩
      · exact w3_56 ⟨hE0, hE, hI, hst⟩
      · exact w3_57 ⟨hE0, hE, hI, hst⟩
      · exact w3_58 ⟨hE0, hE, hI, hst⟩
      · exact w3_59 ⟨hE0, hE, hI, hst⟩
      · exact w3_60 ⟨hE0, hE, hI, hst⟩
      · exact w3_61 ⟨hE0, hE, hI, hst⟩
      · exact w3_62 ⟨hE0, hE, hI, hst⟩
      · exact w3_63 ⟨hE0, hE, hI, hst⟩
      · exact w3_64 ⟨hE0, hE, hI, hst⟩
      · exact w3_65 ⟨hE0, hE, hI, hst⟩
      · exact w3_66 ⟨hE0, hE, hI, hst⟩
      · exact w3_67 ⟨hE0, hE, hI, hst⟩
      · exact w3_68 ⟨hE0, hE, hI, hst⟩
      · exact w3_69 ⟨hE0, hE, hI, hst⟩
      · exact w3_70 ⟨hE0, hE, hI, hst⟩
      · exact w3_71 ⟨hE0, hE, hI, hst⟩
      · exact w3_72 ⟨hE0, hE, hI, hst⟩
      · exact w3_73 ⟨hE0, hE, hI, hst⟩
      · exact w3_74 ⟨hE0, hE, hI, hst⟩
      · exact w3_75 ⟨hE0, hE, hI, hst⟩
      · exact w3_76 ⟨hE0, hE, hI, hst⟩
      · exact w3_77 ⟨hE0, hE, hI, hst⟩
      · exact w3_78 ⟨hE0, hE, hI, hst⟩
      · exact w3_79 ⟨hE0, hE, hI, hst⟩
      · exact w3_80 ⟨hE0, hE, hI, hst⟩
      · exact w3_81 ⟨hE0, hE, hI, hst⟩
      · exact w3_82 ⟨hE0, hE, hI, hst⟩
      · exact w3_83 ⟨hE0, hE, hI, hst⟩
      · exact w3_84 ⟨hE0, hE, hI, hst⟩
      · exact w3_85 ⟨hE0, hE, hI, hst⟩
      · exact w3_86 ⟨hE0, hE, hI, hst⟩
      · exact w3_87 ⟨hE0, hE, hI, hst⟩
      · exact w3_88 ⟨hE0, hE, hI, hst⟩
      · exact w3_89 ⟨hE0, hE, hI, hst⟩
      · exact w3_90 ⟨hE0, hE, hI, hst⟩
      · exact w3_91 ⟨hE0, hE, hI, hst⟩
      · exact w3_92 ⟨hE0, hE, hI, hst⟩
      · exact w3_93 ⟨hE0, hE, hI, hst⟩
      · exact w3_94 ⟨hE0, hE, hI, hst⟩
      · exact w3_95 ⟨hE0, hE, hI, hst⟩
end Go.Proofs.YtpjifimjoinnnaaDoor
