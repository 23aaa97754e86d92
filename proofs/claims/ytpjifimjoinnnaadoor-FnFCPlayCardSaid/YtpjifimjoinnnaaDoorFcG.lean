/- The plain rule's step keeps its contract. -/
import Derived.Test.YtpjifimjoinnnaaDoorFcF
import Derived.KernelRfl
set_option autoImplicit true
set_option relaxedAutoImplicit true
set_option linter.unusedVariables false
set_option linter.unusedSimpArgs false
set_option maxRecDepth 100000
set_option maxHeartbeats 4000000
namespace Go.Proofs.YtpjifimjoinnnaaDoor
open Go Go.Sy Go.RowKit
variable {E : Env}
def R7 (E : Env) : Prop :=
  ((0 ≤ E.i 0 ∧ E.i 0 ≤ 1000000) ∧ (0 ≤ E.i 1 ∧ E.i 1 ≤ 1000000) ∧ (0 ≤ E.i 2 ∧ E.i 2 ≤ 1000000) ∧ (2 ≤ E.i 3 ∧ E.i 3 ≤ 1000000) ∧ (2 ≤ E.i 4 ∧ E.i 4 ≤ 1000000) ∧ (0 ≤ E.i 5 ∧ E.i 5 ≤ 1000000000000000000) ∧ (0 ≤ E.i 6 ∧ E.i 6 ≤ 1000000) ∧ (0 ≤ E.i 7 ∧ E.i 7 ≤ 1000000) ∧ (0 ≤ E.i 8 ∧ E.i 8 ≤ 1000000) ∧ (0 ≤ E.i 9 ∧ E.i 9 ≤ 1000000) ∧ (1000000 ≤ E.i 40 ∧ E.i 40 ≤ 260000000) ∧ (1 ≤ E.i 41 ∧ E.i 41 ≤ 3) ∧ (0 ≤ E.i 60 ∧ E.i 60 ≤ 11) ∧ (0 ≤ E.i 61 ∧ E.i 61 < E.i 41) ∧ (0 ≤ E.i 62 ∧ E.i 62 ≤ 260000000) ∧ (0 ≤ E.i 63 ∧ E.i 63 ≤ 1000000) ∧ (0 ≤ E.i 64 ∧ E.i 64 ≤ 1000000000000000000) ∧ (0 ≤ E.a 0 (12 * (E.i 61).toNat) ∧ E.a 0 (12 * (E.i 61).toNat) ≤ 1000000) ∧ (0 ≤ E.a 0 (12 * (E.i 61).toNat + 1) ∧ E.a 0 (12 * (E.i 61).toNat + 1) ≤ 1000000) ∧ (0 ≤ E.a 0 (12 * (E.i 61).toNat + 2) ∧ E.a 0 (12 * (E.i 61).toNat + 2) ≤ 1000000) ∧ (2 ≤ E.a 0 (12 * (E.i 61).toNat + 3) ∧ E.a 0 (12 * (E.i 61).toNat + 3) ≤ 1000000) ∧ (2 ≤ E.a 0 (12 * (E.i 61).toNat + 4) ∧ E.a 0 (12 * (E.i 61).toNat + 4) ≤ 1000000) ∧ (0 ≤ E.a 0 (12 * (E.i 61).toNat + 5) ∧ E.a 0 (12 * (E.i 61).toNat + 5) ≤ 1000000000000000000) ∧ (0 ≤ E.a 0 (12 * (E.i 61).toNat + 6) ∧ E.a 0 (12 * (E.i 61).toNat + 6) ≤ 1000000) ∧ (0 ≤ E.a 0 (12 * (E.i 61).toNat + 7) ∧ E.a 0 (12 * (E.i 61).toNat + 7) ≤ 1000000) ∧ (0 ≤ E.a 0 (12 * (E.i 61).toNat + 8) ∧ E.a 0 (12 * (E.i 61).toNat + 8) ≤ 1000000) ∧ (0 ≤ E.a 0 (12 * (E.i 61).toNat + 9) ∧ E.a 0 (12 * (E.i 61).toNat + 9) ≤ 1000000) ∧ (0 ≤ E.a 0 (12 * (E.i 61).toNat + 10) ∧ E.a 0 (12 * (E.i 61).toNat + 10) ≤ 1) ∧ E.i 5 ≤ E.i 64 ∧ E.a 0 (12 * (E.i 61).toNat + 5) ≤ E.i 64 ∧ E.a 0 (12 * (E.i 61).toNat + 1) ≤ E.a 0 (12 * (E.i 61).toNat) ∧ E.a 0 (12 * (E.i 61).toNat + 7) ≤ E.a 0 (12 * (E.i 61).toNat + 8) ∧ E.i 7 ≤ E.i 8 ∧ ¬ (E.i 60 = 7 ∧ E.a 0 (12 * (E.i 61).toNat + 8) < E.a 0 (12 * (E.i 61).toNat + 7) + E.i 62) ∧ ¬ (E.i 60 = 7 ∧ E.i 8 < E.i 7 + E.i 62)) ∧ (E.i 61 * 12).toNat = 12 * (E.i 61).toNat ∧ (E.i 61 * 12 + 1).toNat = 12 * (E.i 61).toNat + 1 ∧ (E.i 61 * 12 + 2).toNat = 12 * (E.i 61).toNat + 2 ∧ (E.i 61 * 12 + 3).toNat = 12 * (E.i 61).toNat + 3 ∧ (E.i 61 * 12 + 4).toNat = 12 * (E.i 61).toNat + 4 ∧ (E.i 61 * 12 + 5).toNat = 12 * (E.i 61).toNat + 5 ∧ (E.i 61 * 12 + 6).toNat = 12 * (E.i 61).toNat + 6 ∧ (E.i 61 * 12 + 7).toNat = 12 * (E.i 61).toNat + 7 ∧ (E.i 61 * 12 + 8).toNat = 12 * (E.i 61).toNat + 8 ∧ (E.i 61 * 12 + 9).toNat = 12 * (E.i 61).toNat + 9 ∧ (E.i 61 * 12 + 10).toNat = 12 * (E.i 61).toNat + 10 ∧ (E.i 61 * 12 + 11).toNat = 12 * (E.i 61).toNat + 11
theorem rS0 : rS 0 = .rd (.v 0) (.mul (.v 61) (.c 12)) := rfl
theorem rS1 : rS 1 = .rd (.v 0) (.add (.mul (.v 61) (.c 12)) (.c 1)) := rfl
theorem rS2 : rS 2 = .rd (.v 0) (.add (.mul (.v 61) (.c 12)) (.c 2)) := rfl
theorem rS3 : rS 3 = .rd (.v 0) (.add (.mul (.v 61) (.c 12)) (.c 3)) := rfl
theorem rS4 : rS 4 = .rd (.v 0) (.add (.mul (.v 61) (.c 12)) (.c 4)) := rfl
theorem rS5 : rS 5 = .rd (.v 0) (.add (.mul (.v 61) (.c 12)) (.c 5)) := rfl
theorem rS6 : rS 6 = .rd (.v 0) (.add (.mul (.v 61) (.c 12)) (.c 6)) := rfl
theorem rS7 : rS 7 = .rd (.v 0) (.add (.mul (.v 61) (.c 12)) (.c 7)) := rfl
theorem rS8 : rS 8 = .rd (.v 0) (.add (.mul (.v 61) (.c 12)) (.c 8)) := rfl
theorem rS9 : rS 9 = .rd (.v 0) (.add (.mul (.v 61) (.c 12)) (.c 9)) := rfl
theorem rS10 : rS 10 = .rd (.v 0) (.add (.mul (.v 61) (.c 12)) (.c 10)) := rfl
theorem d_up (a : AE) (i x : SE) (j : Nat) : (AE.up a i x).den E j = if j = (i.den E).toNat then x.den E else a.den E j := by simp only [AE.den]
theorem r7_of (h : Facts E ct7.pre) : R7 E := by
  have h61 : 0 ≤ E.i 61 := by
    have := h ((.le (.c 0) (.v 61)), true) (by simp [ct7])
    rw [le_t] at this; exact this
  have ix : (E.i 61 * 12).toNat = 12 * (E.i 61).toNat ∧ (E.i 61 * 12 + 1).toNat = 12 * (E.i 61).toNat + 1 ∧ (E.i 61 * 12 + 2).toNat = 12 * (E.i 61).toNat + 2 ∧ (E.i 61 * 12 + 3).toNat = 12 * (E.i 61).toNat + 3 ∧ (E.i 61 * 12 + 4).toNat = 12 * (E.i 61).toNat + 4 ∧ (E.i 61 * 12 + 5).toNat = 12 * (E.i 61).toNat + 5 ∧ (E.i 61 * 12 + 6).toNat = 12 * (E.i 61).toNat + 6 ∧ (E.i 61 * 12 + 7).toNat = 12 * (E.i 61).toNat + 7 ∧ (E.i 61 * 12 + 8).toNat = 12 * (E.i 61).toNat + 8 ∧ (E.i 61 * 12 + 9).toNat = 12 * (E.i 61).toNat + 9 ∧ (E.i 61 * 12 + 10).toNat = 12 * (E.i 61).toNat + 10 ∧ (E.i 61 * 12 + 11).toNat = 12 * (E.i 61).toNat + 11 := by and_intros <;> omega
  refine ⟨?_, ix⟩
  obtain ⟨ix0, ix1, ix2, ix3, ix4, ix5, ix6, ix7, ix8, ix9, ix10, ix11⟩ := ix
  simp only [ct7, rttF, bd, rS0, rS1, rS2, rS3, rS4, rS5, rS6, rS7, rS8, rS9, rS10, List.cons_append, List.nil_append, facts_cons, facts_nil, le_t, lt_t, and_f, not_t, le_f, eq_t, d_c, d_v, d_rd, d_av, d_mul, d_add, and_true] at h
  simp only [ix0, ix1, ix2, ix3, ix4, ix5, ix6, ix7, ix8, ix9, ix10] at h
  omega
theorem b2f : b2i false = 0 := rfl
theorem b2t : b2i true = 1 := rfl
theorem aa7 : (e6a ((sE E).p (xE E).S.toNat) (xE E) ↔ (E.a 0 (12 * (E.i 61).toNat + 10) ≠ 0 ∧ b2i (E.b 13) ≠ 0 ∧ E.i 63 ≠ E.a 0 (12 * (E.i 61).toNat)) ∨ (E.a 0 (12 * (E.i 61).toNat + 10) ≠ 0 ∧ E.a 0 (12 * (E.i 61).toNat) < E.i 63)) ∧ (e6b ((sE E).p (xE E).S.toNat) (xE E) ↔ (b2i (E.b 13) ≠ 0 ∧ E.i 63 < E.a 0 (12 * (E.i 61).toNat))) ∧
    (e3a ((sE E).p (xE E).S.toNat) (xE E) ↔ (E.a 0 (12 * (E.i 61).toNat) < E.i 63 ∧ E.a 0 (12 * (E.i 61).toNat + 2) < E.i 63)) ∧ (e3b (sE E).c ((sE E).p (xE E).S.toNat) (xE E) ↔ (E.a 0 (12 * (E.i 61).toNat) < E.i 63 ∧ E.i 2 < E.i 0 + (E.i 63 - E.a 0 (12 * (E.i 61).toNat)))) ∧ ((E.b 13 = true ∧ b2i (E.b 13) = 1) ∨ (E.b 13 = false ∧ b2i (E.b 13) = 0)) :=
  ⟨e6a_iff _ _, Iff.rfl, Iff.rfl, Iff.rfl, by cases E.b 13 <;> simp [b2i]⟩
theorem code7 {kd : Int} (hK : (xE E).k = kd) (h : kd ≠ 0) : 0 = codeF (sE E) (xE E) := (code_n (by rw [hK]; exact h)).symm
theorem num7 {kd : Int} (hK : (xE E).k = kd) (h : kd ≠ 3 ∧ kd ≠ 4 ∧ kd ≠ 8 ∧ kd ≠ 10) : 0 = numF (sE E) (xE E) := (num_n (by rw [hK]; exact h.1) (by rw [hK]; exact h.2.1) (by rw [hK]; exact h.2.2.1) (by rw [hK]; exact h.2.2.2)).symm
theorem is7 {kd : Int} (hK : (xE E).k = kd) (h : kd ≠ 1 ∧ kd ≠ 5 ∧ kd ≠ 6 ∧ kd ≠ 7 ∧ kd ≠ 9 ∧ kd ≠ 10) : false = !((if isF (sE E) (xE E) then (1 : Int) else 0) == 0) := by
  rw [if_neg (is_n (by rw [hK]; exact h.1) (by rw [hK]; exact h.2.1) (by rw [hK]; exact h.2.2.1) (by rw [hK]; exact h.2.2.2.1) (by rw [hK]; exact h.2.2.2.2.1) (by rw [hK]; exact h.2.2.2.2.2))]; rfl
theorem also7 {kd : Int} (hK : (xE E).k = kd) (h : kd ≠ 1) : false = !((if alsoF (sE E) (xE E) then (1 : Int) else 0) == 0) := by rw [if_neg (also_n (by rw [hK]; exact h))]; rfl
theorem out7 (hE : E.fn = fns) {o0 o1 o4 o5 o6 o7 c0 c1 c2 c3 c4 c5 c6 c7 c8 c9 rt : SE} {o2 o3 sm : SB} {A : AE} {s' : Fs} (hst : stp 0 (sE E) (xE E) = s') (h0 : o0.den E = codeF (sE E) (xE E)) (h1 : o1.den E = numF (sE E) (xE E))
    (h2 : o2.den E = !((if isF (sE E) (xE E) then (1 : Int) else 0) == 0)) (h3 : o3.den E = !((if alsoF (sE E) (xE E) then (1 : Int) else 0) == 0)) (h4 : o4.den E = (s'.p (xE E).S.toNat).w) (h5 : o5.den E = (s'.p (xE E).S.toNat).z) (h6 : o6.den E = s'.c.w) (h7 : o7.den E = s'.c.z)
    (k0 : c0.den E = s'.c.h) (k1 : c1.den E = s'.c.r) (k2 : c2.den E = s'.c.w) (k3 : c3.den E = s'.c.z) (k4 : c4.den E = s'.c.m) (k5 : c5.den E = s'.c.t) (k6 : c6.den E = s'.c.f) (k7 : c7.den E = s'.c.s) (k8 : c8.den E = s'.c.l) (k9 : c9.den E = s'.c.b)
    (hr : rt.den E = if E.i 60 = 11 then E.i 62 else E.i 40) (hm : sm.den E = (!(!(E.i 60 == 11) && !(E.b 12)))) (hA : ∀ j, A.den E j = (s'.p (j / 12)).get (j % 12)) :
    ∀ q ∈ ([.i o0 (oF 0), .i o1 (oF 1), .b o2 (nz (oF 2)), .b o3 (nz (oF 3)), .i o4 (oF 4), .i o5 (oF 5), .i o6 (oF 6), .i o7 (oF 7), .i c0 (cF 0), .i c1 (cF 1), .i c2 (cF 2), .i c3 (cF 3), .i c4 (cF 4), .i c5 (cF 5), .i c6 (cF 6), .i c7 (cF 7), .i c8 (cF 8), .i c9 (cF 9), .b (.v 10) (.v 10), .b (.v 11) (.v 11),
      .i rt (.ite (.eq (.v 60) (.c 11)) (.v 62) (.v 40)), .b sm (orB (.eq (.v 60) (.c 11)) (.v 12)), .a A (.ap 1 sArgs) (.v 41) 12, .i (.v 41) (.v 41)] : List Eqn), q.ok E E := by
  subst hst
  simp only [List.forall_mem_cons, List.not_mem_nil, false_imp_iff, implies_true, and_true, true_and, Eqn.ok]
  refine ⟨h0.trans (oF_den hE 0).symm, h1.trans (oF_den hE 1).symm, h2.trans ?_, h3.trans ?_, h4.trans (oF_den hE 4).symm, h5.trans (oF_den hE 5).symm, h6.trans (oF_den hE 6).symm, h7.trans (oF_den hE 7).symm, k0.trans (cF_den hE 0).symm, k1.trans (cF_den hE 1).symm, k2.trans (cF_den hE 2).symm, k3.trans (cF_den hE 3).symm, k4.trans (cF_den hE 4).symm, k5.trans (cF_den hE 5).symm, k6.trans (cF_den hE 6).symm, k7.trans (cF_den hE 7).symm, k8.trans (cF_den hE 8).symm, k9.trans (cF_den hE 9).symm, hr.trans ?_, hm, fun j _ => (hA j).trans (aF_den hE j).symm⟩
  · show _ = !((oF 2).den E == 0); rw [oF_den hE]; rfl
  · show _ = !((oF 3).den E == 0); rw [oF_den hE]; rfl
  · show _ = if ((E.i 60 == 11) = true) then E.i 62 else E.i 40
    simp only [beq_iff_eq]
end Go.Proofs.YtpjifimjoinnnaaDoor
