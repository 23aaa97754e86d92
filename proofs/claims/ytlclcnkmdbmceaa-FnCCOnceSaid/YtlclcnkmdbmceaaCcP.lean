/- CCPlay keeps its contract: the rest. -/
import Derived.Test.YtlclcnkmdbmceaaCcPa
set_option linter.unusedVariables false
set_option linter.unusedSimpArgs false
set_option maxRecDepth 100000
set_option maxHeartbeats 4000000
namespace Go.Proofs.Ytlclcnkmdbmceaa
open Go Go.Sy Go.RowKit
theorem winOf_ok {r sz : Int} (hz : 1200 ≤ sz ∧ sz ≤ 1455) : ∀ c, 2400 ≤ c ∧ c ≤ 200000 → 2400 ≤ winOf r sz c ∧ winOf r sz c ≤ 200000 := by
  intro c hc
  have h1 := winR_ok hc hz
  have h2 := winC_ok hc hz
  unfold winOf; split <;> omega
theorem cStep_2a {W : Int → Int} {sz : Int} {s : CS} {n b f t : Int} (h : n ≤ s.lc) : cStep W sz s 2 n b f t = s := by
  show (if n ≤ s.lc then s else _) = s
  rw [if_pos h]
theorem cStep_2b {W : Int → Int} {sz : Int} {s : CS} {n b f t : Int} (h : ¬ n ≤ s.lc) : cStep W sz s 2 n b f t = ⟨s.la, s.ls, s.ls, W s.cw, W s.cw, s.bud, s.last⟩ := by
  show (if n ≤ s.lc then s else _) = _
  rw [if_neg h]
structure I7 (E0 E : Env) (i : Nat) : Prop where
  hb : E.b 0 = E0.b 0
  h1 : E.i 1 = E0.i 1
  h2 : E.i 2 = E0.i 2
  h3 : E.i 3 = i
  le : (i : Int) ≤ E0.i 2
  ha : E.a 0 = E0.a 0
  st : cS E = cAt (winOf (b2i (E0.b 0)) (E0.i 1)) (E0.i 1) (E0.a 0) i
  row : ∀ j, j < i * 6 → E.a 1 j = outA (winOf (b2i (E0.b 0)) (E0.i 1)) (E0.i 1) (E0.a 0) j
theorem fin7 {E0 E E' : Env} {i : Nat} (hI : I7 E0 E i) (hlt : (i : Int) < E0.i 2) {k n b f t : Int} (hk : E0.a 0 (6 * i) = k) (hn : E0.a 0 (6 * i + 1) = n) (hb : E0.a 0 (6 * i + 2) = b) (hf : E0.a 0 (6 * i + 3) = f) (ht : E0.a 0 (6 * i + 4) = t)
    (hbb : E'.b 0 = E.b 0) (h1 : E'.i 1 = E.i 1) (h2 : E'.i 2 = E.i 2) (h3 : E'.i 3 = E.i 3 + 1) (ha : E'.a 0 = E.a 0) {s' : CS} (hs : cStep (winOf (b2i (E.b 0)) (E.i 1)) (E.i 1) (cS E) k n b f t = s') (hS : cS E' = s') {e : SE} {l : SL}
    (he : (e.den E).toNat = i * 6) (harr : E'.a 1 = (AE.tl (.v 1) e l).den E) (hc : ∀ c, c < 6 → l.nth E c = cOut (E.i 1) s' f t c) : I7 E0 E' (i + 1) where
  hb := hbb.trans hI.hb
  h1 := h1.trans hI.h1
  h2 := h2.trans hI.h2
  h3 := by rw [h3, hI.h3]; omega
  le := by omega
  ha := ha.trans hI.ha
  st := by rw [hS, ← hs, hI.st, hI.h1, hI.hb]; subst hk; subst hn; subst hb; subst hf; subst ht; rfl
  row j hj := by
    rw [harr]
    simp only [AE.den, he]
    split
    · rename_i h; exact hI.row j h
    · rename_i h
      obtain ⟨c, rfl⟩ : ∃ c, j = i * 6 + c := ⟨j - i * 6, by omega⟩
      have hc' : c < 6 := by omega
      have e1 : (i * 6 + c) / 6 = i := by omega
      have e2 : (i * 6 + c) % 6 = c := by omega
      rw [Nat.add_sub_cancel_left, hc c hc', ← hs, hI.h1, hI.hb, hI.st]
      unfold outA
      rw [e1, e2]
      subst hk; subst hn; subst hb; subst hf; subst ht; rfl
theorem g0_den {E : Env} (hE : E.fn = fns) : (SB.ap 0 (.b (.v 0) (.i (.v 1) (.a (.v 0) (.i (.v 2) .nil))))).den E = true ↔ scrOk (winOf (b2i (E.b 0)) (E.i 1)) (E.i 1) (E.a 0) (E.i 2).toNat := by
  show E.fn.g 0 [.i (b2i (E.b 0)), .i (E.i 1), .a ((AE.v 0).den E), .i (E.i 2)] = true ↔ _
  rw [hE]
  exact @decide_eq_true_iff _ (Classical.propDecidable _)
theorem pre7 {E0 : Env} (hE : E0.fn = fns) (hF : Facts E0 ct7.pre) : (1200 ≤ E0.i 1 ∧ E0.i 1 ≤ 1455) ∧ (0 ≤ E0.i 2 ∧ E0.i 2 ≤ 1000) ∧ scrOk (winOf (b2i (E0.b 0)) (E0.i 1)) (E0.i 1) (E0.a 0) (E0.i 2).toNat := by
  simp only [ct7, bd, List.cons_append, List.nil_append, facts_cons, facts_nil, le_t, d_c, d_v, and_true, g0_den hE] at hF
  exact ⟨⟨hF.1, hF.2.1⟩, ⟨hF.2.2.1, hF.2.2.2.1⟩, hF.2.2.2.2⟩
theorem recT {x y : Int} (h : x ≠ -1) : b2i (decide (x ≤ y)) = b2i (decide (x ≠ -1 ∧ x ≤ y)) := by
  congr 1; exact decide_eq_decide.2 ⟨fun a => ⟨h, a⟩, fun a => a.2⟩
theorem recF {x y : Int} (h : x = -1) : b2i false = b2i (decide (x ≠ -1 ∧ x ≤ y)) := by
  congr 1; exact (decide_eq_false (fun a => a.1 h)).symm
theorem ct7_ok : CtOk Try.prog fns ct7 := by
  refine ct_of_pts (p := prm7 Try.prog) (pts := pts7 Try.prog) (n := 900) (c0 := enterD (prm7 Try.prog) ct7) (fun E hE => prm7_ok E hE) rfl (by intro q hq; cases hq) Try.func7 (by kernel_rfl) ?_ (fun E0 _ E => ∃ i, I7 E0 E i) (fun E0 _ E => (E0.i 2 - E.i 3).toNat) pals (by kernel_rfl) ?_ ?_
  · intro t ht
    simp only [pts7, List.mem_cons, List.not_mem_nil, or_false] at ht
    subst ht
    exact ⟨by kernel_rfl, by decide⟩
  · intro E hE hF
    obtain ⟨b1, b2, hst⟩ := pre7 hE hF
    refine ⟨fun a ha => ?_, fun x hx => ?_⟩
    · obtain rfl := Option.some.inj ha; intro q hq; cases hq
    · unfold pals at hx
      simp only [List.mem_cons, List.not_mem_nil, or_false] at hx
      subst hx
      intro hf
      exact ⟨⟨_, rfl, .inl ⟨rfl, rfl⟩⟩, fun o => ⟨⟨0, ⟨rfl, rfl, rfl, rfl, b2.1, rfl, rfl, fun j hj => by omega⟩⟩, fun b hb => by cases hb⟩⟩
  · intro k t ht
    have hk : k = 0 := by
      have := (List.getElem?_eq_some_iff.1 ht).1
      simp [pts7] at this; omega
    subst hk
    refine ⟨p0ls, by rw [← ptD_some ht ct7.g]; exact p0run, fun E0 E hE0 hE hF0 ⟨i, hI⟩ => ?_⟩
    obtain ⟨b1, b2, hst⟩ := pre7 hE0 hF0
    have hle := hI.le
    have hok := cAt_ok (winOf_ok b1) b1 hst i (by omega)
    have hsi := hI.st
    rw [← hsi] at hok
    obtain ⟨k0, k1, k2, k3, k4, k5, k6⟩ := hok
    change -1 ≤ E.i 11 ∧ E.i 11 ≤ 1000 at k0
    change -1 ≤ E.i 12 ∧ E.i 12 ≤ 1000 at k1
    change -1 ≤ E.i 13 ∧ E.i 13 ≤ 1000 at k2
    change 2400 ≤ E.i 14 ∧ E.i 14 ≤ 200000 at k3
    change 0 ≤ E.i 15 ∧ E.i 15 ≤ 4611686018427387903 at k4
    change 0 ≤ E.i 5 ∧ E.i 5 ≤ 25000 at k5
    change 0 ≤ E.i 6 ∧ E.i 6 ≤ 10000000000 at k6
    have h3 := hI.h3; have h1 := hI.h1; have h2 := hI.h2
    have he0 : (p0e0.den E).toNat = i * 6 := by simp only [p0e0, d_mul, d_v, d_c, h3]; omega
    have he1 : (p0e8.den E).toNat = 6 * i + 1 := by simp only [p0e8, p0e0, d_add, d_mul, d_v, d_c, h3]; omega
    have he2 : (p0e6.den E).toNat = 6 * i + 2 := by simp only [p0e6, p0e0, d_add, d_mul, d_v, d_c, h3]; omega
    have he3 : (p0e4.den E).toNat = 6 * i + 3 := by simp only [p0e4, p0e0, d_add, d_mul, d_v, d_c, h3]; omega
    have he4 : (p0e2.den E).toNat = 6 * i + 4 := by simp only [p0e2, p0e0, d_add, d_mul, d_v, d_c, h3]; omega
    have he5 : (p0e10.den E).toNat = 6 * i + 5 := by simp only [p0e10, p0e0, d_add, d_mul, d_v, d_c, h3]; omega
    have hk0 : E0.a 0 (6 * i) = p0e1.den E := by simp only [p0e1, d_rd, d_av, he0, hI.ha, Nat.mul_comm]
    have hk1 : E0.a 0 (6 * i + 1) = p0e9.den E := by simp only [p0e9, d_rd, d_av, he1, hI.ha]
    have hk2 : E0.a 0 (6 * i + 2) = p0e7.den E := by simp only [p0e7, d_rd, d_av, he2, hI.ha]
    have hk3 : E0.a 0 (6 * i + 3) = p0e5.den E := by simp only [p0e5, d_rd, d_av, he3, hI.ha]
    have hk4 : E0.a 0 (6 * i + 4) = p0e3.den E := by simp only [p0e3, d_rd, d_av, he4, hI.ha]
    have hk5 : E0.a 0 (6 * i + 5) = p0e11.den E := by simp only [p0e11, d_rd, d_av, he5, hI.ha]
    have hstep : (E.i 3 < E.i 2) → okStep (cS E) (p0e1.den E) (p0e9.den E) (p0e7.den E) (p0e5.den E) (p0e3.den E) (p0e11.den E) := fun h => by
      rw [hsi, ← hk0, ← hk1, ← hk2, ← hk3, ← hk4, ← hk5]; exact hst i (by omega)
    have hhalf : (E.i 14).tdiv 2 = E.i 14 / 2 := tdn (by omega)
    refine ⟨?_, fun x hx => ?_⟩
    · obtain rfl := Option.some.inj ht
      simp only [pacB, cwB, bd, List.cons_append, List.nil_append, facts_cons, facts_nil, le_t, eq_t, d_c, d_v, and_true]
      omega
    · unfold p0ls at hx
      simp only [List.mem_cons, List.not_mem_nil, or_false] at hx
      rcases hx with rfl | rfl | rfl | rfl | rfl | rfl | rfl | rfl | rfl | rfl | rfl | rfl | rfl | rfl | rfl | rfl | rfl | rfl | rfl | rfl | rfl | rfl | rfl | rfl | rfl | rfl | rfl | rfl | rfl | rfl | rfl | rfl | rfl | rfl | rfl | rfl | rfl | rfl | rfl | rfl | rfl | rfl | rfl | rfl | rfl | rfl | rfl | rfl | rfl | rfl | rfl | rfl | rfl | rfl | rfl | rfl
      · -- p0x0
        intro hf
        skip
        simp only [facts_cons, facts_nil, lt_t, lt_f, le_t, le_f, eq_t, eq_f, and_true, d_c, d_v, d_bv] at hf
        have hs := hstep (by omega)
        obtain ⟨hs1, hs2⟩ := hs
        change (_ ∧ _) ∨ (_ ∧ E.i 14 ≤ 190000 ∧ E.i 13 = -1 ∧ E.i 15 = 4611686018427387903) ∨ (_ ∧ _) ∨ _ at hs2
        first
          | omega
          | (have r1 := pRate_ok (cw := E.i 14) (sst := E.i 15) k3
             have r2 := pRate_ok (cw := ackCw (E.i 14) (p0e5.den E) (E.i 1)) (sst := E.i 15) (ackCw_ok (by omega) (by omega))
             simp only [p0e0, p0e1, p0e2, p0e3, p0e4, p0e5, p0e6, p0e7, p0e8, p0e9, p0e10, p0e11, p0e12, p0e13, p0e14, p0e15, p0e16, p0e17, p0e18, p0e19, p0e20, p0e21, p0e22, p0e23, p0e24, p0e25, p0e26, p0e27, p0e28, p0e29, p0e30, p0e31, p0e32, p0e33, p0e34, p0e35, p0e36, p0e37, p0e38, p0e39, p0e40, p0e41, p0e42, p0e43, p0e44, p0e45, p0e46, p0e47, p0e48, p0e49, p0e50, p0e51, p0e52, p0e53, p0e54, d_c, d_v, d_ap, d_sli, d_slnil, d_bv, d_bc, d_mul, d_add, d_sub, d_wrap, d_tdiv, d_mx, hE, fnsf0, fnsf1, fnsf2, fnsf3, fnsf4, fnsf5, fnsf6, fnsf7, fnsf8, fnsf9] at hf r2
             omega)
          | (have r1 := pRate_ok (cw := E.i 14) (sst := E.i 15) k3
             simp only [p0e0, p0e1, p0e2, p0e3, p0e4, p0e5, p0e6, p0e7, p0e8, p0e9, p0e10, p0e11, p0e12, p0e13, p0e14, p0e15, p0e16, p0e17, p0e18, p0e19, p0e20, p0e21, p0e22, p0e23, p0e24, p0e25, p0e26, p0e27, p0e28, p0e29, p0e30, p0e31, p0e32, p0e33, p0e34, p0e35, p0e36, p0e37, p0e38, p0e39, p0e40, p0e41, p0e42, p0e43, p0e44, p0e45, p0e46, p0e47, p0e48, p0e49, p0e50, p0e51, p0e52, p0e53, p0e54, d_c, d_v, d_ap, d_sli, d_slnil, d_bv, d_bc, d_mul, d_add, d_sub, d_wrap, d_tdiv, d_mx, hE, fnsf0, fnsf1, fnsf2, fnsf3, fnsf4, fnsf5, fnsf6, fnsf7, fnsf8, fnsf9] at hf
             omega)
          | (have r0 := winR_ok (cw := E.i 14) (sz := E.i 1) k3 (by omega)
             have r1 := pRate_ok (cw := winR (E.i 14) (E.i 1)) (sst := winR (E.i 14) (E.i 1)) (by omega)
             simp only [p0e0, p0e1, p0e2, p0e3, p0e4, p0e5, p0e6, p0e7, p0e8, p0e9, p0e10, p0e11, p0e12, p0e13, p0e14, p0e15, p0e16, p0e17, p0e18, p0e19, p0e20, p0e21, p0e22, p0e23, p0e24, p0e25, p0e26, p0e27, p0e28, p0e29, p0e30, p0e31, p0e32, p0e33, p0e34, p0e35, p0e36, p0e37, p0e38, p0e39, p0e40, p0e41, p0e42, p0e43, p0e44, p0e45, p0e46, p0e47, p0e48, p0e49, p0e50, p0e51, p0e52, p0e53, p0e54, d_c, d_v, d_ap, d_sli, d_slnil, d_bv, d_bc, d_mul, d_add, d_sub, d_wrap, d_tdiv, d_mx, hE, fnsf0, fnsf1, fnsf2, fnsf3, fnsf4, fnsf5, fnsf6, fnsf7, fnsf8, fnsf9] at hf
             omega)
          | (have r0 := winC_ok (cw := E.i 14) (sz := E.i 1) k3 (by omega)
             have r1 := pRate_ok (cw := winC (E.i 14) (E.i 1)) (sst := winC (E.i 14) (E.i 1)) (by omega)
             simp only [p0e0, p0e1, p0e2, p0e3, p0e4, p0e5, p0e6, p0e7, p0e8, p0e9, p0e10, p0e11, p0e12, p0e13, p0e14, p0e15, p0e16, p0e17, p0e18, p0e19, p0e20, p0e21, p0e22, p0e23, p0e24, p0e25, p0e26, p0e27, p0e28, p0e29, p0e30, p0e31, p0e32, p0e33, p0e34, p0e35, p0e36, p0e37, p0e38, p0e39, p0e40, p0e41, p0e42, p0e43, p0e44, p0e45, p0e46, p0e47, p0e48, p0e49, p0e50, p0e51, p0e52, p0e53, p0e54, d_c, d_v, d_ap, d_sli, d_slnil, d_bv, d_bc, d_mul, d_add, d_sub, d_wrap, d_tdiv, d_mx, hE, fnsf0, fnsf1, fnsf2, fnsf3, fnsf4, fnsf5, fnsf6, fnsf7, fnsf8, fnsf9] at hf
             omega)
          | (have r1 := pRate_ok (cw := E.i 1 * 2) (sst := E.i 14 / 2) (by omega)
             simp only [p0e0, p0e1, p0e2, p0e3, p0e4, p0e5, p0e6, p0e7, p0e8, p0e9, p0e10, p0e11, p0e12, p0e13, p0e14, p0e15, p0e16, p0e17, p0e18, p0e19, p0e20, p0e21, p0e22, p0e23, p0e24, p0e25, p0e26, p0e27, p0e28, p0e29, p0e30, p0e31, p0e32, p0e33, p0e34, p0e35, p0e36, p0e37, p0e38, p0e39, p0e40, p0e41, p0e42, p0e43, p0e44, p0e45, p0e46, p0e47, p0e48, p0e49, p0e50, p0e51, p0e52, p0e53, p0e54, d_c, d_v, d_ap, d_sli, d_slnil, d_bv, d_bc, d_mul, d_add, d_sub, d_wrap, d_tdiv, d_mx, hE, fnsf0, fnsf1, fnsf2, fnsf3, fnsf4, fnsf5, fnsf6, fnsf7, fnsf8, fnsf9, hhalf] at hf
             omega)
      · -- p0x1
        intro hf
        skip
        simp only [facts_cons, facts_nil, lt_t, lt_f, le_t, le_f, eq_t, eq_f, and_true, d_c, d_v, d_bv] at hf
        have hs := hstep (by omega)
        obtain ⟨hs1, hs2⟩ := hs
        change (_ ∧ _) ∨ (_ ∧ E.i 14 ≤ 190000 ∧ E.i 13 = -1 ∧ E.i 15 = 4611686018427387903) ∨ (_ ∧ _) ∨ _ at hs2
        first
          | omega
          | (have r1 := pRate_ok (cw := E.i 14) (sst := E.i 15) k3
             have r2 := pRate_ok (cw := ackCw (E.i 14) (p0e5.den E) (E.i 1)) (sst := E.i 15) (ackCw_ok (by omega) (by omega))
             simp only [p0e0, p0e1, p0e2, p0e3, p0e4, p0e5, p0e6, p0e7, p0e8, p0e9, p0e10, p0e11, p0e12, p0e13, p0e14, p0e15, p0e16, p0e17, p0e18, p0e19, p0e20, p0e21, p0e22, p0e23, p0e24, p0e25, p0e26, p0e27, p0e28, p0e29, p0e30, p0e31, p0e32, p0e33, p0e34, p0e35, p0e36, p0e37, p0e38, p0e39, p0e40, p0e41, p0e42, p0e43, p0e44, p0e45, p0e46, p0e47, p0e48, p0e49, p0e50, p0e51, p0e52, p0e53, p0e54, d_c, d_v, d_ap, d_sli, d_slnil, d_bv, d_bc, d_mul, d_add, d_sub, d_wrap, d_tdiv, d_mx, hE, fnsf0, fnsf1, fnsf2, fnsf3, fnsf4, fnsf5, fnsf6, fnsf7, fnsf8, fnsf9] at hf r2
             omega)
          | (have r1 := pRate_ok (cw := E.i 14) (sst := E.i 15) k3
             simp only [p0e0, p0e1, p0e2, p0e3, p0e4, p0e5, p0e6, p0e7, p0e8, p0e9, p0e10, p0e11, p0e12, p0e13, p0e14, p0e15, p0e16, p0e17, p0e18, p0e19, p0e20, p0e21, p0e22, p0e23, p0e24, p0e25, p0e26, p0e27, p0e28, p0e29, p0e30, p0e31, p0e32, p0e33, p0e34, p0e35, p0e36, p0e37, p0e38, p0e39, p0e40, p0e41, p0e42, p0e43, p0e44, p0e45, p0e46, p0e47, p0e48, p0e49, p0e50, p0e51, p0e52, p0e53, p0e54, d_c, d_v, d_ap, d_sli, d_slnil, d_bv, d_bc, d_mul, d_add, d_sub, d_wrap, d_tdiv, d_mx, hE, fnsf0, fnsf1, fnsf2, fnsf3, fnsf4, fnsf5, fnsf6, fnsf7, fnsf8, fnsf9] at hf
             omega)
          | (have r0 := winR_ok (cw := E.i 14) (sz := E.i 1) k3 (by omega)
             have r1 := pRate_ok (cw := winR (E.i 14) (E.i 1)) (sst := winR (E.i 14) (E.i 1)) (by omega)
             simp only [p0e0, p0e1, p0e2, p0e3, p0e4, p0e5, p0e6, p0e7, p0e8, p0e9, p0e10, p0e11, p0e12, p0e13, p0e14, p0e15, p0e16, p0e17, p0e18, p0e19, p0e20, p0e21, p0e22, p0e23, p0e24, p0e25, p0e26, p0e27, p0e28, p0e29, p0e30, p0e31, p0e32, p0e33, p0e34, p0e35, p0e36, p0e37, p0e38, p0e39, p0e40, p0e41, p0e42, p0e43, p0e44, p0e45, p0e46, p0e47, p0e48, p0e49, p0e50, p0e51, p0e52, p0e53, p0e54, d_c, d_v, d_ap, d_sli, d_slnil, d_bv, d_bc, d_mul, d_add, d_sub, d_wrap, d_tdiv, d_mx, hE, fnsf0, fnsf1, fnsf2, fnsf3, fnsf4, fnsf5, fnsf6, fnsf7, fnsf8, fnsf9] at hf
             omega)
          | (have r0 := winC_ok (cw := E.i 14) (sz := E.i 1) k3 (by omega)
             have r1 := pRate_ok (cw := winC (E.i 14) (E.i 1)) (sst := winC (E.i 14) (E.i 1)) (by omega)
             simp only [p0e0, p0e1, p0e2, p0e3, p0e4, p0e5, p0e6, p0e7, p0e8, p0e9, p0e10, p0e11, p0e12, p0e13, p0e14, p0e15, p0e16, p0e17, p0e18, p0e19, p0e20, p0e21, p0e22, p0e23, p0e24, p0e25, p0e26, p0e27, p0e28, p0e29, p0e30, p0e31, p0e32, p0e33, p0e34, p0e35, p0e36, p0e37, p0e38, p0e39, p0e40, p0e41, p0e42, p0e43, p0e44, p0e45, p0e46, p0e47, p0e48, p0e49, p0e50, p0e51, p0e52, p0e53, p0e54, d_c, d_v, d_ap, d_sli, d_slnil, d_bv, d_bc, d_mul, d_add, d_sub, d_wrap, d_tdiv, d_mx, hE, fnsf0, fnsf1, fnsf2, fnsf3, fnsf4, fnsf5, fnsf6, fnsf7, fnsf8, fnsf9] at hf
             omega)
          | (have r1 := pRate_ok (cw := E.i 1 * 2) (sst := E.i 14 / 2) (by omega)
             simp only [p0e0, p0e1, p0e2, p0e3, p0e4, p0e5, p0e6, p0e7, p0e8, p0e9, p0e10, p0e11, p0e12, p0e13, p0e14, p0e15, p0e16, p0e17, p0e18, p0e19, p0e20, p0e21, p0e22, p0e23, p0e24, p0e25, p0e26, p0e27, p0e28, p0e29, p0e30, p0e31, p0e32, p0e33, p0e34, p0e35, p0e36, p0e37, p0e38, p0e39, p0e40, p0e41, p0e42, p0e43, p0e44, p0e45, p0e46, p0e47, p0e48, p0e49, p0e50, p0e51, p0e52, p0e53, p0e54, d_c, d_v, d_ap, d_sli, d_slnil, d_bv, d_bc, d_mul, d_add, d_sub, d_wrap, d_tdiv, d_mx, hE, fnsf0, fnsf1, fnsf2, fnsf3, fnsf4, fnsf5, fnsf6, fnsf7, fnsf8, fnsf9, hhalf] at hf
             omega)
      · -- p0x2
        intro hf
        skip
        simp only [facts_cons, facts_nil, lt_t, lt_f, le_t, le_f, eq_t, eq_f, and_true, d_c, d_v, d_bv] at hf
        have hs := hstep (by omega)
        obtain ⟨hs1, hs2⟩ := hs
        change (_ ∧ _) ∨ (_ ∧ E.i 14 ≤ 190000 ∧ E.i 13 = -1 ∧ E.i 15 = 4611686018427387903) ∨ (_ ∧ _) ∨ _ at hs2
        first
          | omega
          | (have r1 := pRate_ok (cw := E.i 14) (sst := E.i 15) k3
             have r2 := pRate_ok (cw := ackCw (E.i 14) (p0e5.den E) (E.i 1)) (sst := E.i 15) (ackCw_ok (by omega) (by omega))
             simp only [p0e0, p0e1, p0e2, p0e3, p0e4, p0e5, p0e6, p0e7, p0e8, p0e9, p0e10, p0e11, p0e12, p0e13, p0e14, p0e15, p0e16, p0e17, p0e18, p0e19, p0e20, p0e21, p0e22, p0e23, p0e24, p0e25, p0e26, p0e27, p0e28, p0e29, p0e30, p0e31, p0e32, p0e33, p0e34, p0e35, p0e36, p0e37, p0e38, p0e39, p0e40, p0e41, p0e42, p0e43, p0e44, p0e45, p0e46, p0e47, p0e48, p0e49, p0e50, p0e51, p0e52, p0e53, p0e54, d_c, d_v, d_ap, d_sli, d_slnil, d_bv, d_bc, d_mul, d_add, d_sub, d_wrap, d_tdiv, d_mx, hE, fnsf0, fnsf1, fnsf2, fnsf3, fnsf4, fnsf5, fnsf6, fnsf7, fnsf8, fnsf9] at hf r2
             omega)
          | (have r1 := pRate_ok (cw := E.i 14) (sst := E.i 15) k3
             simp only [p0e0, p0e1, p0e2, p0e3, p0e4, p0e5, p0e6, p0e7, p0e8, p0e9, p0e10, p0e11, p0e12, p0e13, p0e14, p0e15, p0e16, p0e17, p0e18, p0e19, p0e20, p0e21, p0e22, p0e23, p0e24, p0e25, p0e26, p0e27, p0e28, p0e29, p0e30, p0e31, p0e32, p0e33, p0e34, p0e35, p0e36, p0e37, p0e38, p0e39, p0e40, p0e41, p0e42, p0e43, p0e44, p0e45, p0e46, p0e47, p0e48, p0e49, p0e50, p0e51, p0e52, p0e53, p0e54, d_c, d_v, d_ap, d_sli, d_slnil, d_bv, d_bc, d_mul, d_add, d_sub, d_wrap, d_tdiv, d_mx, hE, fnsf0, fnsf1, fnsf2, fnsf3, fnsf4, fnsf5, fnsf6, fnsf7, fnsf8, fnsf9] at hf
             omega)
          | (have r0 := winR_ok (cw := E.i 14) (sz := E.i 1) k3 (by omega)
             have r1 := pRate_ok (cw := winR (E.i 14) (E.i 1)) (sst := winR (E.i 14) (E.i 1)) (by omega)
             simp only [p0e0, p0e1, p0e2, p0e3, p0e4, p0e5, p0e6, p0e7, p0e8, p0e9, p0e10, p0e11, p0e12, p0e13, p0e14, p0e15, p0e16, p0e17, p0e18, p0e19, p0e20, p0e21, p0e22, p0e23, p0e24, p0e25, p0e26, p0e27, p0e28, p0e29, p0e30, p0e31, p0e32, p0e33, p0e34, p0e35, p0e36, p0e37, p0e38, p0e39, p0e40, p0e41, p0e42, p0e43, p0e44, p0e45, p0e46, p0e47, p0e48, p0e49, p0e50, p0e51, p0e52, p0e53, p0e54, d_c, d_v, d_ap, d_sli, d_slnil, d_bv, d_bc, d_mul, d_add, d_sub, d_wrap, d_tdiv, d_mx, hE, fnsf0, fnsf1, fnsf2, fnsf3, fnsf4, fnsf5, fnsf6, fnsf7, fnsf8, fnsf9] at hf
             omega)
          | (have r0 := winC_ok (cw := E.i 14) (sz := E.i 1) k3 (by omega)
             have r1 := pRate_ok (cw := winC (E.i 14) (E.i 1)) (sst := winC (E.i 14) (E.i 1)) (by omega)
             simp only [p0e0, p0e1, p0e2, p0e3, p0e4, p0e5, p0e6, p0e7, p0e8, p0e9, p0e10, p0e11, p0e12, p0e13, p0e14, p0e15, p0e16, p0e17, p0e18, p0e19, p0e20, p0e21, p0e22, p0e23, p0e24, p0e25, p0e26, p0e27, p0e28, p0e29, p0e30, p0e31, p0e32, p0e33, p0e34, p0e35, p0e36, p0e37, p0e38, p0e39, p0e40, p0e41, p0e42, p0e43, p0e44, p0e45, p0e46, p0e47, p0e48, p0e49, p0e50, p0e51, p0e52, p0e53, p0e54, d_c, d_v, d_ap, d_sli, d_slnil, d_bv, d_bc, d_mul, d_add, d_sub, d_wrap, d_tdiv, d_mx, hE, fnsf0, fnsf1, fnsf2, fnsf3, fnsf4, fnsf5, fnsf6, fnsf7, fnsf8, fnsf9] at hf
             omega)
          | (have r1 := pRate_ok (cw := E.i 1 * 2) (sst := E.i 14 / 2) (by omega)
             simp only [p0e0, p0e1, p0e2, p0e3, p0e4, p0e5, p0e6, p0e7, p0e8, p0e9, p0e10, p0e11, p0e12, p0e13, p0e14, p0e15, p0e16, p0e17, p0e18, p0e19, p0e20, p0e21, p0e22, p0e23, p0e24, p0e25, p0e26, p0e27, p0e28, p0e29, p0e30, p0e31, p0e32, p0e33, p0e34, p0e35, p0e36, p0e37, p0e38, p0e39, p0e40, p0e41, p0e42, p0e43, p0e44, p0e45, p0e46, p0e47, p0e48, p0e49, p0e50, p0e51, p0e52, p0e53, p0e54, d_c, d_v, d_ap, d_sli, d_slnil, d_bv, d_bc, d_mul, d_add, d_sub, d_wrap, d_tdiv, d_mx, hE, fnsf0, fnsf1, fnsf2, fnsf3, fnsf4, fnsf5, fnsf6, fnsf7, fnsf8, fnsf9, hhalf] at hf
             omega)
      · -- p0x3
        intro hf
        skip
        simp only [facts_cons, facts_nil, lt_t, lt_f, le_t, le_f, eq_t, eq_f, and_true, d_c, d_v, d_bv] at hf
        have hs := hstep (by omega)
        obtain ⟨hs1, hs2⟩ := hs
        change (_ ∧ _) ∨ (_ ∧ E.i 14 ≤ 190000 ∧ E.i 13 = -1 ∧ E.i 15 = 4611686018427387903) ∨ (_ ∧ _) ∨ _ at hs2
        first
          | omega
          | (have r1 := pRate_ok (cw := E.i 14) (sst := E.i 15) k3
             have r2 := pRate_ok (cw := ackCw (E.i 14) (p0e5.den E) (E.i 1)) (sst := E.i 15) (ackCw_ok (by omega) (by omega))
             simp only [p0e0, p0e1, p0e2, p0e3, p0e4, p0e5, p0e6, p0e7, p0e8, p0e9, p0e10, p0e11, p0e12, p0e13, p0e14, p0e15, p0e16, p0e17, p0e18, p0e19, p0e20, p0e21, p0e22, p0e23, p0e24, p0e25, p0e26, p0e27, p0e28, p0e29, p0e30, p0e31, p0e32, p0e33, p0e34, p0e35, p0e36, p0e37, p0e38, p0e39, p0e40, p0e41, p0e42, p0e43, p0e44, p0e45, p0e46, p0e47, p0e48, p0e49, p0e50, p0e51, p0e52, p0e53, p0e54, d_c, d_v, d_ap, d_sli, d_slnil, d_bv, d_bc, d_mul, d_add, d_sub, d_wrap, d_tdiv, d_mx, hE, fnsf0, fnsf1, fnsf2, fnsf3, fnsf4, fnsf5, fnsf6, fnsf7, fnsf8, fnsf9] at hf r2
             omega)
          | (have r1 := pRate_ok (cw := E.i 14) (sst := E.i 15) k3
             simp only [p0e0, p0e1, p0e2, p0e3, p0e4, p0e5, p0e6, p0e7, p0e8, p0e9, p0e10, p0e11, p0e12, p0e13, p0e14, p0e15, p0e16, p0e17, p0e18, p0e19, p0e20, p0e21, p0e22, p0e23, p0e24, p0e25, p0e26, p0e27, p0e28, p0e29, p0e30, p0e31, p0e32, p0e33, p0e34, p0e35, p0e36, p0e37, p0e38, p0e39, p0e40, p0e41, p0e42, p0e43, p0e44, p0e45, p0e46, p0e47, p0e48, p0e49, p0e50, p0e51, p0e52, p0e53, p0e54, d_c, d_v, d_ap, d_sli, d_slnil, d_bv, d_bc, d_mul, d_add, d_sub, d_wrap, d_tdiv, d_mx, hE, fnsf0, fnsf1, fnsf2, fnsf3, fnsf4, fnsf5, fnsf6, fnsf7, fnsf8, fnsf9] at hf
             omega)
          | (have r0 := winR_ok (cw := E.i 14) (sz := E.i 1) k3 (by omega)
             have r1 := pRate_ok (cw := winR (E.i 14) (E.i 1)) (sst := winR (E.i 14) (E.i 1)) (by omega)
             simp only [p0e0, p0e1, p0e2, p0e3, p0e4, p0e5, p0e6, p0e7, p0e8, p0e9, p0e10, p0e11, p0e12, p0e13, p0e14, p0e15, p0e16, p0e17, p0e18, p0e19, p0e20, p0e21, p0e22, p0e23, p0e24, p0e25, p0e26, p0e27, p0e28, p0e29, p0e30, p0e31, p0e32, p0e33, p0e34, p0e35, p0e36, p0e37, p0e38, p0e39, p0e40, p0e41, p0e42, p0e43, p0e44, p0e45, p0e46, p0e47, p0e48, p0e49, p0e50, p0e51, p0e52, p0e53, p0e54, d_c, d_v, d_ap, d_sli, d_slnil, d_bv, d_bc, d_mul, d_add, d_sub, d_wrap, d_tdiv, d_mx, hE, fnsf0, fnsf1, fnsf2, fnsf3, fnsf4, fnsf5, fnsf6, fnsf7, fnsf8, fnsf9] at hf
             omega)
          | (have r0 := winC_ok (cw := E.i 14) (sz := E.i 1) k3 (by omega)
             have r1 := pRate_ok (cw := winC (E.i 14) (E.i 1)) (sst := winC (E.i 14) (E.i 1)) (by omega)
             simp only [p0e0, p0e1, p0e2, p0e3, p0e4, p0e5, p0e6, p0e7, p0e8, p0e9, p0e10, p0e11, p0e12, p0e13, p0e14, p0e15, p0e16, p0e17, p0e18, p0e19, p0e20, p0e21, p0e22, p0e23, p0e24, p0e25, p0e26, p0e27, p0e28, p0e29, p0e30, p0e31, p0e32, p0e33, p0e34, p0e35, p0e36, p0e37, p0e38, p0e39, p0e40, p0e41, p0e42, p0e43, p0e44, p0e45, p0e46, p0e47, p0e48, p0e49, p0e50, p0e51, p0e52, p0e53, p0e54, d_c, d_v, d_ap, d_sli, d_slnil, d_bv, d_bc, d_mul, d_add, d_sub, d_wrap, d_tdiv, d_mx, hE, fnsf0, fnsf1, fnsf2, fnsf3, fnsf4, fnsf5, fnsf6, fnsf7, fnsf8, fnsf9] at hf
             omega)
          | (have r1 := pRate_ok (cw := E.i 1 * 2) (sst := E.i 14 / 2) (by omega)
             simp only [p0e0, p0e1, p0e2, p0e3, p0e4, p0e5, p0e6, p0e7, p0e8, p0e9, p0e10, p0e11, p0e12, p0e13, p0e14, p0e15, p0e16, p0e17, p0e18, p0e19, p0e20, p0e21, p0e22, p0e23, p0e24, p0e25, p0e26, p0e27, p0e28, p0e29, p0e30, p0e31, p0e32, p0e33, p0e34, p0e35, p0e36, p0e37, p0e38, p0e39, p0e40, p0e41, p0e42, p0e43, p0e44, p0e45, p0e46, p0e47, p0e48, p0e49, p0e50, p0e51, p0e52, p0e53, p0e54, d_c, d_v, d_ap, d_sli, d_slnil, d_bv, d_bc, d_mul, d_add, d_sub, d_wrap, d_tdiv, d_mx, hE, fnsf0, fnsf1, fnsf2, fnsf3, fnsf4, fnsf5, fnsf6, fnsf7, fnsf8, fnsf9, hhalf] at hf
             omega)
      · -- p0x4
        intro hf
        refine ⟨⟨_, rfl, .inr ⟨rfl, rfl⟩⟩, fun o => ?_⟩
        have hK : p0e1.den E = 0 := by
          have := hf ((.eq p0e1 (.c 0)), true) (by simp)
          simpa only [eq_t, d_c] using this
        have hlt : E.i 3 < E.i 2 := by
          have := hf ((.lt (.v 3) (.v 2)), true) (by simp)
          simpa only [lt_t, d_v] using this
        have hbud : p0e13.den E = pSent (p0e3.den E) (p0e7.den E) (pRate (E.i 14) (E.i 15)) (E.i 5) (E.i 6) := by simp only [p0e0, p0e1, p0e2, p0e3, p0e4, p0e5, p0e6, p0e7, p0e8, p0e9, p0e10, p0e11, p0e12, p0e13, p0e14, p0e15, p0e16, p0e17, p0e18, p0e19, p0e20, p0e21, p0e22, p0e23, p0e24, p0e25, p0e26, p0e27, p0e28, p0e29, p0e30, p0e31, p0e32, p0e33, p0e34, p0e35, p0e36, p0e37, p0e38, p0e39, p0e40, p0e41, p0e42, p0e43, p0e44, p0e45, p0e46, p0e47, p0e48, p0e49, p0e50, p0e51, p0e52, p0e53, p0e54, d_c, d_v, d_ap, d_sli, d_slnil, d_bv, d_bc, d_mul, d_add, d_sub, d_wrap, d_tdiv, d_mx, hE, fnsf0, fnsf1, fnsf2, fnsf3, fnsf4, fnsf5, fnsf6, fnsf7, fnsf8, fnsf9]
        have hcell0 : (SE.den E (.v 14)) = E.i 14 := by simp only [p0e0, p0e1, p0e2, p0e3, p0e4, p0e5, p0e6, p0e7, p0e8, p0e9, p0e10, p0e11, p0e12, p0e13, p0e14, p0e15, p0e16, p0e17, p0e18, p0e19, p0e20, p0e21, p0e22, p0e23, p0e24, p0e25, p0e26, p0e27, p0e28, p0e29, p0e30, p0e31, p0e32, p0e33, p0e34, p0e35, p0e36, p0e37, p0e38, p0e39, p0e40, p0e41, p0e42, p0e43, p0e44, p0e45, p0e46, p0e47, p0e48, p0e49, p0e50, p0e51, p0e52, p0e53, p0e54, d_c, d_v, d_ap, d_sli, d_slnil, d_bv, d_bc, d_mul, d_add, d_sub, d_wrap, d_tdiv, d_mx, hE, fnsf0, fnsf1, fnsf2, fnsf3, fnsf4, fnsf5, fnsf6, fnsf7, fnsf8, fnsf9]
        have hcell1 : (SE.den E (.v 15)) = E.i 15 := by simp only [p0e0, p0e1, p0e2, p0e3, p0e4, p0e5, p0e6, p0e7, p0e8, p0e9, p0e10, p0e11, p0e12, p0e13, p0e14, p0e15, p0e16, p0e17, p0e18, p0e19, p0e20, p0e21, p0e22, p0e23, p0e24, p0e25, p0e26, p0e27, p0e28, p0e29, p0e30, p0e31, p0e32, p0e33, p0e34, p0e35, p0e36, p0e37, p0e38, p0e39, p0e40, p0e41, p0e42, p0e43, p0e44, p0e45, p0e46, p0e47, p0e48, p0e49, p0e50, p0e51, p0e52, p0e53, p0e54, d_c, d_v, d_ap, d_sli, d_slnil, d_bv, d_bc, d_mul, d_add, d_sub, d_wrap, d_tdiv, d_mx, hE, fnsf0, fnsf1, fnsf2, fnsf3, fnsf4, fnsf5, fnsf6, fnsf7, fnsf8, fnsf9]
        have hcell4 : p0e15.den E = pBudget (p0e3.den E) (pRate (E.i 14) (E.i 15)) (pSent (p0e3.den E) (p0e7.den E) (pRate (E.i 14) (E.i 15)) (E.i 5) (E.i 6)) (p0e3.den E) := by simp only [p0e0, p0e1, p0e2, p0e3, p0e4, p0e5, p0e6, p0e7, p0e8, p0e9, p0e10, p0e11, p0e12, p0e13, p0e14, p0e15, p0e16, p0e17, p0e18, p0e19, p0e20, p0e21, p0e22, p0e23, p0e24, p0e25, p0e26, p0e27, p0e28, p0e29, p0e30, p0e31, p0e32, p0e33, p0e34, p0e35, p0e36, p0e37, p0e38, p0e39, p0e40, p0e41, p0e42, p0e43, p0e44, p0e45, p0e46, p0e47, p0e48, p0e49, p0e50, p0e51, p0e52, p0e53, p0e54, d_c, d_v, d_ap, d_sli, d_slnil, d_bv, d_bc, d_mul, d_add, d_sub, d_wrap, d_tdiv, d_mx, hE, fnsf0, fnsf1, fnsf2, fnsf3, fnsf4, fnsf5, fnsf6, fnsf7, fnsf8, fnsf9]
        have hcell5 : p0e16.den E = pUntil (pRate (E.i 14) (E.i 15)) (pSent (p0e3.den E) (p0e7.den E) (pRate (E.i 14) (E.i 15)) (E.i 5) (E.i 6)) (p0e3.den E) := by simp only [p0e0, p0e1, p0e2, p0e3, p0e4, p0e5, p0e6, p0e7, p0e8, p0e9, p0e10, p0e11, p0e12, p0e13, p0e14, p0e15, p0e16, p0e17, p0e18, p0e19, p0e20, p0e21, p0e22, p0e23, p0e24, p0e25, p0e26, p0e27, p0e28, p0e29, p0e30, p0e31, p0e32, p0e33, p0e34, p0e35, p0e36, p0e37, p0e38, p0e39, p0e40, p0e41, p0e42, p0e43, p0e44, p0e45, p0e46, p0e47, p0e48, p0e49, p0e50, p0e51, p0e52, p0e53, p0e54, d_c, d_v, d_ap, d_sli, d_slnil, d_bv, d_bc, d_mul, d_add, d_sub, d_wrap, d_tdiv, d_mx, hE, fnsf0, fnsf1, fnsf2, fnsf3, fnsf4, fnsf5, fnsf6, fnsf7, fnsf8, fnsf9]
        refine ⟨⟨i + 1, fin7 hI (by omega) (hk0.trans hK) hk1 hk2 hk3 hk4 rfl rfl rfl rfl rfl (s' := ⟨E.i 12, p0e9.den E, E.i 13, E.i 14, E.i 15, pSent (p0e3.den E) (p0e7.den E) (pRate (E.i 14) (E.i 15)) (E.i 5) (E.i 6), p0e3.den E⟩) rfl (CS.ext rfl rfl rfl rfl rfl hbud rfl) (e := p0e0) (l := (.i (.v 14) (.b (.lt (.v 14) (.v 15)) (.b (.c false) (.b (.lt p0e5 (.v 14)) (.b (.le (.v 1) p0e15) (.i p0e16 .nil))))))) he0 rfl ?_⟩, fun b hb => ?_⟩
        · intro c hc
          match c, hc with
          | 0, _ => exact hcell0
          | 1, _ =>
            show b2i (decide (SE.den E (.v 14) < SE.den E (.v 15))) = b2i (decide (E.i 14 < E.i 15))
            first | rw [hcell0, hcell1] | rw [hcell0]
          | 2, _ =>
            exact recF (by show E.i 12 = -1; have := hf ((.eq (.v 12) (.c (-1))), true) (by simp); simpa only [eq_t, d_v, d_c] using this)
          | 3, _ =>
            show b2i (decide (p0e5.den E < SE.den E (.v 14))) = b2i (decide (p0e5.den E < E.i 14))
            rw [hcell0]
          | 4, _ =>
            show b2i (decide (E.i 1 ≤ p0e15.den E)) = b2i (decide (E.i 1 ≤ pBudget (p0e3.den E) (pRate (E.i 14) (E.i 15)) (pSent (p0e3.den E) (p0e7.den E) (pRate (E.i 14) (E.i 15)) (E.i 5) (E.i 6)) (p0e3.den E)))
            rw [hcell4]
          | 5, _ => exact hcell5
        · obtain rfl := Option.some.inj hb
          show (E0.i 2 - (E.i 3 + 1)).toNat < _
          omega
      · -- p0x5
        intro hf
        refine ⟨⟨_, rfl, .inr ⟨rfl, rfl⟩⟩, fun o => ?_⟩
        have hK : p0e1.den E = 0 := by
          have := hf ((.eq p0e1 (.c 0)), true) (by simp)
          simpa only [eq_t, d_c] using this
        have hlt : E.i 3 < E.i 2 := by
          have := hf ((.lt (.v 3) (.v 2)), true) (by simp)
          simpa only [lt_t, d_v] using this
        have hbud : p0e13.den E = pSent (p0e3.den E) (p0e7.den E) (pRate (E.i 14) (E.i 15)) (E.i 5) (E.i 6) := by simp only [p0e0, p0e1, p0e2, p0e3, p0e4, p0e5, p0e6, p0e7, p0e8, p0e9, p0e10, p0e11, p0e12, p0e13, p0e14, p0e15, p0e16, p0e17, p0e18, p0e19, p0e20, p0e21, p0e22, p0e23, p0e24, p0e25, p0e26, p0e27, p0e28, p0e29, p0e30, p0e31, p0e32, p0e33, p0e34, p0e35, p0e36, p0e37, p0e38, p0e39, p0e40, p0e41, p0e42, p0e43, p0e44, p0e45, p0e46, p0e47, p0e48, p0e49, p0e50, p0e51, p0e52, p0e53, p0e54, d_c, d_v, d_ap, d_sli, d_slnil, d_bv, d_bc, d_mul, d_add, d_sub, d_wrap, d_tdiv, d_mx, hE, fnsf0, fnsf1, fnsf2, fnsf3, fnsf4, fnsf5, fnsf6, fnsf7, fnsf8, fnsf9]
        have hcell0 : (SE.den E (.v 14)) = E.i 14 := by simp only [p0e0, p0e1, p0e2, p0e3, p0e4, p0e5, p0e6, p0e7, p0e8, p0e9, p0e10, p0e11, p0e12, p0e13, p0e14, p0e15, p0e16, p0e17, p0e18, p0e19, p0e20, p0e21, p0e22, p0e23, p0e24, p0e25, p0e26, p0e27, p0e28, p0e29, p0e30, p0e31, p0e32, p0e33, p0e34, p0e35, p0e36, p0e37, p0e38, p0e39, p0e40, p0e41, p0e42, p0e43, p0e44, p0e45, p0e46, p0e47, p0e48, p0e49, p0e50, p0e51, p0e52, p0e53, p0e54, d_c, d_v, d_ap, d_sli, d_slnil, d_bv, d_bc, d_mul, d_add, d_sub, d_wrap, d_tdiv, d_mx, hE, fnsf0, fnsf1, fnsf2, fnsf3, fnsf4, fnsf5, fnsf6, fnsf7, fnsf8, fnsf9]
        have hcell1 : (SE.den E (.v 15)) = E.i 15 := by simp only [p0e0, p0e1, p0e2, p0e3, p0e4, p0e5, p0e6, p0e7, p0e8, p0e9, p0e10, p0e11, p0e12, p0e13, p0e14, p0e15, p0e16, p0e17, p0e18, p0e19, p0e20, p0e21, p0e22, p0e23, p0e24, p0e25, p0e26, p0e27, p0e28, p0e29, p0e30, p0e31, p0e32, p0e33, p0e34, p0e35, p0e36, p0e37, p0e38, p0e39, p0e40, p0e41, p0e42, p0e43, p0e44, p0e45, p0e46, p0e47, p0e48, p0e49, p0e50, p0e51, p0e52, p0e53, p0e54, d_c, d_v, d_ap, d_sli, d_slnil, d_bv, d_bc, d_mul, d_add, d_sub, d_wrap, d_tdiv, d_mx, hE, fnsf0, fnsf1, fnsf2, fnsf3, fnsf4, fnsf5, fnsf6, fnsf7, fnsf8, fnsf9]
        have hcell4 : p0e15.den E = pBudget (p0e3.den E) (pRate (E.i 14) (E.i 15)) (pSent (p0e3.den E) (p0e7.den E) (pRate (E.i 14) (E.i 15)) (E.i 5) (E.i 6)) (p0e3.den E) := by simp only [p0e0, p0e1, p0e2, p0e3, p0e4, p0e5, p0e6, p0e7, p0e8, p0e9, p0e10, p0e11, p0e12, p0e13, p0e14, p0e15, p0e16, p0e17, p0e18, p0e19, p0e20, p0e21, p0e22, p0e23, p0e24, p0e25, p0e26, p0e27, p0e28, p0e29, p0e30, p0e31, p0e32, p0e33, p0e34, p0e35, p0e36, p0e37, p0e38, p0e39, p0e40, p0e41, p0e42, p0e43, p0e44, p0e45, p0e46, p0e47, p0e48, p0e49, p0e50, p0e51, p0e52, p0e53, p0e54, d_c, d_v, d_ap, d_sli, d_slnil, d_bv, d_bc, d_mul, d_add, d_sub, d_wrap, d_tdiv, d_mx, hE, fnsf0, fnsf1, fnsf2, fnsf3, fnsf4, fnsf5, fnsf6, fnsf7, fnsf8, fnsf9]
        have hcell5 : p0e16.den E = pUntil (pRate (E.i 14) (E.i 15)) (pSent (p0e3.den E) (p0e7.den E) (pRate (E.i 14) (E.i 15)) (E.i 5) (E.i 6)) (p0e3.den E) := by simp only [p0e0, p0e1, p0e2, p0e3, p0e4, p0e5, p0e6, p0e7, p0e8, p0e9, p0e10, p0e11, p0e12, p0e13, p0e14, p0e15, p0e16, p0e17, p0e18, p0e19, p0e20, p0e21, p0e22, p0e23, p0e24, p0e25, p0e26, p0e27, p0e28, p0e29, p0e30, p0e31, p0e32, p0e33, p0e34, p0e35, p0e36, p0e37, p0e38, p0e39, p0e40, p0e41, p0e42, p0e43, p0e44, p0e45, p0e46, p0e47, p0e48, p0e49, p0e50, p0e51, p0e52, p0e53, p0e54, d_c, d_v, d_ap, d_sli, d_slnil, d_bv, d_bc, d_mul, d_add, d_sub, d_wrap, d_tdiv, d_mx, hE, fnsf0, fnsf1, fnsf2, fnsf3, fnsf4, fnsf5, fnsf6, fnsf7, fnsf8, fnsf9]
        refine ⟨⟨i + 1, fin7 hI (by omega) (hk0.trans hK) hk1 hk2 hk3 hk4 rfl rfl rfl rfl rfl (s' := ⟨E.i 12, p0e9.den E, E.i 13, E.i 14, E.i 15, pSent (p0e3.den E) (p0e7.den E) (pRate (E.i 14) (E.i 15)) (E.i 5) (E.i 6), p0e3.den E⟩) rfl (CS.ext rfl rfl rfl rfl rfl hbud rfl) (e := p0e0) (l := (.i (.v 14) (.b (.lt (.v 14) (.v 15)) (.b (.le (.v 12) (.v 13)) (.b (.lt p0e5 (.v 14)) (.b (.le (.v 1) p0e15) (.i p0e16 .nil))))))) he0 rfl ?_⟩, fun b hb => ?_⟩
        · intro c hc
          match c, hc with
          | 0, _ => exact hcell0
          | 1, _ =>
            show b2i (decide (SE.den E (.v 14) < SE.den E (.v 15))) = b2i (decide (E.i 14 < E.i 15))
            first | rw [hcell0, hcell1] | rw [hcell0]
          | 2, _ =>
            exact recT (by show E.i 12 ≠ -1; have := hf ((.eq (.v 12) (.c (-1))), false) (by simp); simpa only [eq_f, d_v, d_c] using this)
          | 3, _ =>
            show b2i (decide (p0e5.den E < SE.den E (.v 14))) = b2i (decide (p0e5.den E < E.i 14))
            rw [hcell0]
          | 4, _ =>
            show b2i (decide (E.i 1 ≤ p0e15.den E)) = b2i (decide (E.i 1 ≤ pBudget (p0e3.den E) (pRate (E.i 14) (E.i 15)) (pSent (p0e3.den E) (p0e7.den E) (pRate (E.i 14) (E.i 15)) (E.i 5) (E.i 6)) (p0e3.den E)))
            rw [hcell4]
          | 5, _ => exact hcell5
        · obtain rfl := Option.some.inj hb
          show (E0.i 2 - (E.i 3 + 1)).toNat < _
          omega
      · -- p0x6
        intro hf
        skip
        simp only [facts_cons, facts_nil, lt_t, lt_f, le_t, le_f, eq_t, eq_f, and_true, d_c, d_v, d_bv] at hf
        have hs := hstep (by omega)
        obtain ⟨hs1, hs2⟩ := hs
        change (_ ∧ _) ∨ (_ ∧ E.i 14 ≤ 190000 ∧ E.i 13 = -1 ∧ E.i 15 = 4611686018427387903) ∨ (_ ∧ _) ∨ _ at hs2
        first
          | omega
          | (have r1 := pRate_ok (cw := E.i 14) (sst := E.i 15) k3
             have r2 := pRate_ok (cw := ackCw (E.i 14) (p0e5.den E) (E.i 1)) (sst := E.i 15) (ackCw_ok (by omega) (by omega))
             simp only [p0e0, p0e1, p0e2, p0e3, p0e4, p0e5, p0e6, p0e7, p0e8, p0e9, p0e10, p0e11, p0e12, p0e13, p0e14, p0e15, p0e16, p0e17, p0e18, p0e19, p0e20, p0e21, p0e22, p0e23, p0e24, p0e25, p0e26, p0e27, p0e28, p0e29, p0e30, p0e31, p0e32, p0e33, p0e34, p0e35, p0e36, p0e37, p0e38, p0e39, p0e40, p0e41, p0e42, p0e43, p0e44, p0e45, p0e46, p0e47, p0e48, p0e49, p0e50, p0e51, p0e52, p0e53, p0e54, d_c, d_v, d_ap, d_sli, d_slnil, d_bv, d_bc, d_mul, d_add, d_sub, d_wrap, d_tdiv, d_mx, hE, fnsf0, fnsf1, fnsf2, fnsf3, fnsf4, fnsf5, fnsf6, fnsf7, fnsf8, fnsf9] at hf r2
             omega)
          | (have r1 := pRate_ok (cw := E.i 14) (sst := E.i 15) k3
             simp only [p0e0, p0e1, p0e2, p0e3, p0e4, p0e5, p0e6, p0e7, p0e8, p0e9, p0e10, p0e11, p0e12, p0e13, p0e14, p0e15, p0e16, p0e17, p0e18, p0e19, p0e20, p0e21, p0e22, p0e23, p0e24, p0e25, p0e26, p0e27, p0e28, p0e29, p0e30, p0e31, p0e32, p0e33, p0e34, p0e35, p0e36, p0e37, p0e38, p0e39, p0e40, p0e41, p0e42, p0e43, p0e44, p0e45, p0e46, p0e47, p0e48, p0e49, p0e50, p0e51, p0e52, p0e53, p0e54, d_c, d_v, d_ap, d_sli, d_slnil, d_bv, d_bc, d_mul, d_add, d_sub, d_wrap, d_tdiv, d_mx, hE, fnsf0, fnsf1, fnsf2, fnsf3, fnsf4, fnsf5, fnsf6, fnsf7, fnsf8, fnsf9] at hf
             omega)
          | (have r0 := winR_ok (cw := E.i 14) (sz := E.i 1) k3 (by omega)
             have r1 := pRate_ok (cw := winR (E.i 14) (E.i 1)) (sst := winR (E.i 14) (E.i 1)) (by omega)
             simp only [p0e0, p0e1, p0e2, p0e3, p0e4, p0e5, p0e6, p0e7, p0e8, p0e9, p0e10, p0e11, p0e12, p0e13, p0e14, p0e15, p0e16, p0e17, p0e18, p0e19, p0e20, p0e21, p0e22, p0e23, p0e24, p0e25, p0e26, p0e27, p0e28, p0e29, p0e30, p0e31, p0e32, p0e33, p0e34, p0e35, p0e36, p0e37, p0e38, p0e39, p0e40, p0e41, p0e42, p0e43, p0e44, p0e45, p0e46, p0e47, p0e48, p0e49, p0e50, p0e51, p0e52, p0e53, p0e54, d_c, d_v, d_ap, d_sli, d_slnil, d_bv, d_bc, d_mul, d_add, d_sub, d_wrap, d_tdiv, d_mx, hE, fnsf0, fnsf1, fnsf2, fnsf3, fnsf4, fnsf5, fnsf6, fnsf7, fnsf8, fnsf9] at hf
             omega)
          | (have r0 := winC_ok (cw := E.i 14) (sz := E.i 1) k3 (by omega)
             have r1 := pRate_ok (cw := winC (E.i 14) (E.i 1)) (sst := winC (E.i 14) (E.i 1)) (by omega)
             simp only [p0e0, p0e1, p0e2, p0e3, p0e4, p0e5, p0e6, p0e7, p0e8, p0e9, p0e10, p0e11, p0e12, p0e13, p0e14, p0e15, p0e16, p0e17, p0e18, p0e19, p0e20, p0e21, p0e22, p0e23, p0e24, p0e25, p0e26, p0e27, p0e28, p0e29, p0e30, p0e31, p0e32, p0e33, p0e34, p0e35, p0e36, p0e37, p0e38, p0e39, p0e40, p0e41, p0e42, p0e43, p0e44, p0e45, p0e46, p0e47, p0e48, p0e49, p0e50, p0e51, p0e52, p0e53, p0e54, d_c, d_v, d_ap, d_sli, d_slnil, d_bv, d_bc, d_mul, d_add, d_sub, d_wrap, d_tdiv, d_mx, hE, fnsf0, fnsf1, fnsf2, fnsf3, fnsf4, fnsf5, fnsf6, fnsf7, fnsf8, fnsf9] at hf
             omega)
          | (have r1 := pRate_ok (cw := E.i 1 * 2) (sst := E.i 14 / 2) (by omega)
             simp only [p0e0, p0e1, p0e2, p0e3, p0e4, p0e5, p0e6, p0e7, p0e8, p0e9, p0e10, p0e11, p0e12, p0e13, p0e14, p0e15, p0e16, p0e17, p0e18, p0e19, p0e20, p0e21, p0e22, p0e23, p0e24, p0e25, p0e26, p0e27, p0e28, p0e29, p0e30, p0e31, p0e32, p0e33, p0e34, p0e35, p0e36, p0e37, p0e38, p0e39, p0e40, p0e41, p0e42, p0e43, p0e44, p0e45, p0e46, p0e47, p0e48, p0e49, p0e50, p0e51, p0e52, p0e53, p0e54, d_c, d_v, d_ap, d_sli, d_slnil, d_bv, d_bc, d_mul, d_add, d_sub, d_wrap, d_tdiv, d_mx, hE, fnsf0, fnsf1, fnsf2, fnsf3, fnsf4, fnsf5, fnsf6, fnsf7, fnsf8, fnsf9, hhalf] at hf
             omega)
      · -- p0x7
        intro hf
        skip
        simp only [facts_cons, facts_nil, lt_t, lt_f, le_t, le_f, eq_t, eq_f, and_true, d_c, d_v, d_bv] at hf
        have hs := hstep (by omega)
        obtain ⟨hs1, hs2⟩ := hs
        change (_ ∧ _) ∨ (_ ∧ E.i 14 ≤ 190000 ∧ E.i 13 = -1 ∧ E.i 15 = 4611686018427387903) ∨ (_ ∧ _) ∨ _ at hs2
        first
          | omega
          | (have r1 := pRate_ok (cw := E.i 14) (sst := E.i 15) k3
             have r2 := pRate_ok (cw := ackCw (E.i 14) (p0e5.den E) (E.i 1)) (sst := E.i 15) (ackCw_ok (by omega) (by omega))
             simp only [p0e0, p0e1, p0e2, p0e3, p0e4, p0e5, p0e6, p0e7, p0e8, p0e9, p0e10, p0e11, p0e12, p0e13, p0e14, p0e15, p0e16, p0e17, p0e18, p0e19, p0e20, p0e21, p0e22, p0e23, p0e24, p0e25, p0e26, p0e27, p0e28, p0e29, p0e30, p0e31, p0e32, p0e33, p0e34, p0e35, p0e36, p0e37, p0e38, p0e39, p0e40, p0e41, p0e42, p0e43, p0e44, p0e45, p0e46, p0e47, p0e48, p0e49, p0e50, p0e51, p0e52, p0e53, p0e54, d_c, d_v, d_ap, d_sli, d_slnil, d_bv, d_bc, d_mul, d_add, d_sub, d_wrap, d_tdiv, d_mx, hE, fnsf0, fnsf1, fnsf2, fnsf3, fnsf4, fnsf5, fnsf6, fnsf7, fnsf8, fnsf9] at hf r2
             omega)
          | (have r1 := pRate_ok (cw := E.i 14) (sst := E.i 15) k3
             simp only [p0e0, p0e1, p0e2, p0e3, p0e4, p0e5, p0e6, p0e7, p0e8, p0e9, p0e10, p0e11, p0e12, p0e13, p0e14, p0e15, p0e16, p0e17, p0e18, p0e19, p0e20, p0e21, p0e22, p0e23, p0e24, p0e25, p0e26, p0e27, p0e28, p0e29, p0e30, p0e31, p0e32, p0e33, p0e34, p0e35, p0e36, p0e37, p0e38, p0e39, p0e40, p0e41, p0e42, p0e43, p0e44, p0e45, p0e46, p0e47, p0e48, p0e49, p0e50, p0e51, p0e52, p0e53, p0e54, d_c, d_v, d_ap, d_sli, d_slnil, d_bv, d_bc, d_mul, d_add, d_sub, d_wrap, d_tdiv, d_mx, hE, fnsf0, fnsf1, fnsf2, fnsf3, fnsf4, fnsf5, fnsf6, fnsf7, fnsf8, fnsf9] at hf
             omega)
          | (have r0 := winR_ok (cw := E.i 14) (sz := E.i 1) k3 (by omega)
             have r1 := pRate_ok (cw := winR (E.i 14) (E.i 1)) (sst := winR (E.i 14) (E.i 1)) (by omega)
             simp only [p0e0, p0e1, p0e2, p0e3, p0e4, p0e5, p0e6, p0e7, p0e8, p0e9, p0e10, p0e11, p0e12, p0e13, p0e14, p0e15, p0e16, p0e17, p0e18, p0e19, p0e20, p0e21, p0e22, p0e23, p0e24, p0e25, p0e26, p0e27, p0e28, p0e29, p0e30, p0e31, p0e32, p0e33, p0e34, p0e35, p0e36, p0e37, p0e38, p0e39, p0e40, p0e41, p0e42, p0e43, p0e44, p0e45, p0e46, p0e47, p0e48, p0e49, p0e50, p0e51, p0e52, p0e53, p0e54, d_c, d_v, d_ap, d_sli, d_slnil, d_bv, d_bc, d_mul, d_add, d_sub, d_wrap, d_tdiv, d_mx, hE, fnsf0, fnsf1, fnsf2, fnsf3, fnsf4, fnsf5, fnsf6, fnsf7, fnsf8, fnsf9] at hf
             omega)
          | (have r0 := winC_ok (cw := E.i 14) (sz := E.i 1) k3 (by omega)
             have r1 := pRate_ok (cw := winC (E.i 14) (E.i 1)) (sst := winC (E.i 14) (E.i 1)) (by omega)
             simp only [p0e0, p0e1, p0e2, p0e3, p0e4, p0e5, p0e6, p0e7, p0e8, p0e9, p0e10, p0e11, p0e12, p0e13, p0e14, p0e15, p0e16, p0e17, p0e18, p0e19, p0e20, p0e21, p0e22, p0e23, p0e24, p0e25, p0e26, p0e27, p0e28, p0e29, p0e30, p0e31, p0e32, p0e33, p0e34, p0e35, p0e36, p0e37, p0e38, p0e39, p0e40, p0e41, p0e42, p0e43, p0e44, p0e45, p0e46, p0e47, p0e48, p0e49, p0e50, p0e51, p0e52, p0e53, p0e54, d_c, d_v, d_ap, d_sli, d_slnil, d_bv, d_bc, d_mul, d_add, d_sub, d_wrap, d_tdiv, d_mx, hE, fnsf0, fnsf1, fnsf2, fnsf3, fnsf4, fnsf5, fnsf6, fnsf7, fnsf8, fnsf9] at hf
             omega)
          | (have r1 := pRate_ok (cw := E.i 1 * 2) (sst := E.i 14 / 2) (by omega)
             simp only [p0e0, p0e1, p0e2, p0e3, p0e4, p0e5, p0e6, p0e7, p0e8, p0e9, p0e10, p0e11, p0e12, p0e13, p0e14, p0e15, p0e16, p0e17, p0e18, p0e19, p0e20, p0e21, p0e22, p0e23, p0e24, p0e25, p0e26, p0e27, p0e28, p0e29, p0e30, p0e31, p0e32, p0e33, p0e34, p0e35, p0e36, p0e37, p0e38, p0e39, p0e40, p0e41, p0e42, p0e43, p0e44, p0e45, p0e46, p0e47, p0e48, p0e49, p0e50, p0e51, p0e52, p0e53, p0e54, d_c, d_v, d_ap, d_sli, d_slnil, d_bv, d_bc, d_mul, d_add, d_sub, d_wrap, d_tdiv, d_mx, hE, fnsf0, fnsf1, fnsf2, fnsf3, fnsf4, fnsf5, fnsf6, fnsf7, fnsf8, fnsf9, hhalf] at hf
             omega)
      · -- p0x8
        intro hf
        refine ⟨⟨_, rfl, .inr ⟨rfl, rfl⟩⟩, fun o => ?_⟩
        have hK : p0e1.den E = 1 := by
          have := hf ((.eq p0e1 (.c 1)), true) (by simp)
          simpa only [eq_t, d_c] using this
        have hlt : E.i 3 < E.i 2 := by
          have := hf ((.lt (.v 3) (.v 2)), true) (by simp)
          simpa only [lt_t, d_v] using this
        have hcw : p0e19.den E = ackCw (E.i 14) (p0e5.den E) (E.i 1) := by simp only [p0e0, p0e1, p0e2, p0e3, p0e4, p0e5, p0e6, p0e7, p0e8, p0e9, p0e10, p0e11, p0e12, p0e13, p0e14, p0e15, p0e16, p0e17, p0e18, p0e19, p0e20, p0e21, p0e22, p0e23, p0e24, p0e25, p0e26, p0e27, p0e28, p0e29, p0e30, p0e31, p0e32, p0e33, p0e34, p0e35, p0e36, p0e37, p0e38, p0e39, p0e40, p0e41, p0e42, p0e43, p0e44, p0e45, p0e46, p0e47, p0e48, p0e49, p0e50, p0e51, p0e52, p0e53, p0e54, d_c, d_v, d_ap, d_sli, d_slnil, d_bv, d_bc, d_mul, d_add, d_sub, d_wrap, d_tdiv, d_mx, hE, fnsf0, fnsf1, fnsf2, fnsf3, fnsf4, fnsf5, fnsf6, fnsf7, fnsf8, fnsf9]
        have hcell0 : (SE.den E (p0e19)) = ackCw (E.i 14) (p0e5.den E) (E.i 1) := by simp only [p0e0, p0e1, p0e2, p0e3, p0e4, p0e5, p0e6, p0e7, p0e8, p0e9, p0e10, p0e11, p0e12, p0e13, p0e14, p0e15, p0e16, p0e17, p0e18, p0e19, p0e20, p0e21, p0e22, p0e23, p0e24, p0e25, p0e26, p0e27, p0e28, p0e29, p0e30, p0e31, p0e32, p0e33, p0e34, p0e35, p0e36, p0e37, p0e38, p0e39, p0e40, p0e41, p0e42, p0e43, p0e44, p0e45, p0e46, p0e47, p0e48, p0e49, p0e50, p0e51, p0e52, p0e53, p0e54, d_c, d_v, d_ap, d_sli, d_slnil, d_bv, d_bc, d_mul, d_add, d_sub, d_wrap, d_tdiv, d_mx, hE, fnsf0, fnsf1, fnsf2, fnsf3, fnsf4, fnsf5, fnsf6, fnsf7, fnsf8, fnsf9]
        have hcell1 : (SE.den E (.v 15)) = E.i 15 := by simp only [p0e0, p0e1, p0e2, p0e3, p0e4, p0e5, p0e6, p0e7, p0e8, p0e9, p0e10, p0e11, p0e12, p0e13, p0e14, p0e15, p0e16, p0e17, p0e18, p0e19, p0e20, p0e21, p0e22, p0e23, p0e24, p0e25, p0e26, p0e27, p0e28, p0e29, p0e30, p0e31, p0e32, p0e33, p0e34, p0e35, p0e36, p0e37, p0e38, p0e39, p0e40, p0e41, p0e42, p0e43, p0e44, p0e45, p0e46, p0e47, p0e48, p0e49, p0e50, p0e51, p0e52, p0e53, p0e54, d_c, d_v, d_ap, d_sli, d_slnil, d_bv, d_bc, d_mul, d_add, d_sub, d_wrap, d_tdiv, d_mx, hE, fnsf0, fnsf1, fnsf2, fnsf3, fnsf4, fnsf5, fnsf6, fnsf7, fnsf8, fnsf9]
        have hcell4 : p0e22.den E = pBudget (p0e3.den E) (pRate (ackCw (E.i 14) (p0e5.den E) (E.i 1)) (E.i 15)) (E.i 5) (E.i 6) := by simp only [p0e0, p0e1, p0e2, p0e3, p0e4, p0e5, p0e6, p0e7, p0e8, p0e9, p0e10, p0e11, p0e12, p0e13, p0e14, p0e15, p0e16, p0e17, p0e18, p0e19, p0e20, p0e21, p0e22, p0e23, p0e24, p0e25, p0e26, p0e27, p0e28, p0e29, p0e30, p0e31, p0e32, p0e33, p0e34, p0e35, p0e36, p0e37, p0e38, p0e39, p0e40, p0e41, p0e42, p0e43, p0e44, p0e45, p0e46, p0e47, p0e48, p0e49, p0e50, p0e51, p0e52, p0e53, p0e54, d_c, d_v, d_ap, d_sli, d_slnil, d_bv, d_bc, d_mul, d_add, d_sub, d_wrap, d_tdiv, d_mx, hE, fnsf0, fnsf1, fnsf2, fnsf3, fnsf4, fnsf5, fnsf6, fnsf7, fnsf8, fnsf9]
        have hcell5 : p0e23.den E = pUntil (pRate (ackCw (E.i 14) (p0e5.den E) (E.i 1)) (E.i 15)) (E.i 5) (E.i 6) := by simp only [p0e0, p0e1, p0e2, p0e3, p0e4, p0e5, p0e6, p0e7, p0e8, p0e9, p0e10, p0e11, p0e12, p0e13, p0e14, p0e15, p0e16, p0e17, p0e18, p0e19, p0e20, p0e21, p0e22, p0e23, p0e24, p0e25, p0e26, p0e27, p0e28, p0e29, p0e30, p0e31, p0e32, p0e33, p0e34, p0e35, p0e36, p0e37, p0e38, p0e39, p0e40, p0e41, p0e42, p0e43, p0e44, p0e45, p0e46, p0e47, p0e48, p0e49, p0e50, p0e51, p0e52, p0e53, p0e54, d_c, d_v, d_ap, d_sli, d_slnil, d_bv, d_bc, d_mul, d_add, d_sub, d_wrap, d_tdiv, d_mx, hE, fnsf0, fnsf1, fnsf2, fnsf3, fnsf4, fnsf5, fnsf6, fnsf7, fnsf8, fnsf9]
        refine ⟨⟨i + 1, fin7 hI (by omega) (hk0.trans hK) hk1 hk2 hk3 hk4 rfl rfl rfl rfl rfl (s' := ⟨imx (p0e9.den E) (E.i 12), E.i 11, E.i 13, ackCw (E.i 14) (p0e5.den E) (E.i 1), E.i 15, E.i 5, E.i 6⟩) rfl (CS.ext rfl rfl rfl hcw rfl rfl rfl) (e := p0e0) (l := (.i p0e19 (.b (.lt p0e19 (.v 15)) (.b (.le p0e20 (.v 13)) (.b (.lt p0e5 p0e19) (.b (.le (.v 1) p0e22) (.i p0e23 .nil))))))) he0 rfl ?_⟩, fun b hb => ?_⟩
        · intro c hc
          match c, hc with
          | 0, _ => exact hcell0
          | 1, _ =>
            show b2i (decide (SE.den E (p0e19) < SE.den E (.v 15))) = b2i (decide (ackCw (E.i 14) (p0e5.den E) (E.i 1) < E.i 15))
            first | rw [hcell0, hcell1] | rw [hcell0]
          | 2, _ =>
            exact recT (by show imx (p0e9.den E) (E.i 12) ≠ -1; have := (hstep hlt).1.1; have := imx_or (p0e9.den E) (E.i 12); omega)
          | 3, _ =>
            show b2i (decide (p0e5.den E < SE.den E (p0e19))) = b2i (decide (p0e5.den E < ackCw (E.i 14) (p0e5.den E) (E.i 1)))
            rw [hcell0]
          | 4, _ =>
            show b2i (decide (E.i 1 ≤ p0e22.den E)) = b2i (decide (E.i 1 ≤ pBudget (p0e3.den E) (pRate (ackCw (E.i 14) (p0e5.den E) (E.i 1)) (E.i 15)) (E.i 5) (E.i 6)))
            rw [hcell4]
          | 5, _ => exact hcell5
        · obtain rfl := Option.some.inj hb
          show (E0.i 2 - (E.i 3 + 1)).toNat < _
          omega
      · -- p0x9
        intro hf
        skip
        simp only [facts_cons, facts_nil, lt_t, lt_f, le_t, le_f, eq_t, eq_f, and_true, d_c, d_v, d_bv] at hf
        have hs := hstep (by omega)
        obtain ⟨hs1, hs2⟩ := hs
        change (_ ∧ _) ∨ (_ ∧ E.i 14 ≤ 190000 ∧ E.i 13 = -1 ∧ E.i 15 = 4611686018427387903) ∨ (_ ∧ _) ∨ _ at hs2
        first
          | omega
          | (have r1 := pRate_ok (cw := E.i 14) (sst := E.i 15) k3
             have r2 := pRate_ok (cw := ackCw (E.i 14) (p0e5.den E) (E.i 1)) (sst := E.i 15) (ackCw_ok (by omega) (by omega))
             simp only [p0e0, p0e1, p0e2, p0e3, p0e4, p0e5, p0e6, p0e7, p0e8, p0e9, p0e10, p0e11, p0e12, p0e13, p0e14, p0e15, p0e16, p0e17, p0e18, p0e19, p0e20, p0e21, p0e22, p0e23, p0e24, p0e25, p0e26, p0e27, p0e28, p0e29, p0e30, p0e31, p0e32, p0e33, p0e34, p0e35, p0e36, p0e37, p0e38, p0e39, p0e40, p0e41, p0e42, p0e43, p0e44, p0e45, p0e46, p0e47, p0e48, p0e49, p0e50, p0e51, p0e52, p0e53, p0e54, d_c, d_v, d_ap, d_sli, d_slnil, d_bv, d_bc, d_mul, d_add, d_sub, d_wrap, d_tdiv, d_mx, hE, fnsf0, fnsf1, fnsf2, fnsf3, fnsf4, fnsf5, fnsf6, fnsf7, fnsf8, fnsf9] at hf r2
             omega)
          | (have r1 := pRate_ok (cw := E.i 14) (sst := E.i 15) k3
             simp only [p0e0, p0e1, p0e2, p0e3, p0e4, p0e5, p0e6, p0e7, p0e8, p0e9, p0e10, p0e11, p0e12, p0e13, p0e14, p0e15, p0e16, p0e17, p0e18, p0e19, p0e20, p0e21, p0e22, p0e23, p0e24, p0e25, p0e26, p0e27, p0e28, p0e29, p0e30, p0e31, p0e32, p0e33, p0e34, p0e35, p0e36, p0e37, p0e38, p0e39, p0e40, p0e41, p0e42, p0e43, p0e44, p0e45, p0e46, p0e47, p0e48, p0e49, p0e50, p0e51, p0e52, p0e53, p0e54, d_c, d_v, d_ap, d_sli, d_slnil, d_bv, d_bc, d_mul, d_add, d_sub, d_wrap, d_tdiv, d_mx, hE, fnsf0, fnsf1, fnsf2, fnsf3, fnsf4, fnsf5, fnsf6, fnsf7, fnsf8, fnsf9] at hf
             omega)
          | (have r0 := winR_ok (cw := E.i 14) (sz := E.i 1) k3 (by omega)
             have r1 := pRate_ok (cw := winR (E.i 14) (E.i 1)) (sst := winR (E.i 14) (E.i 1)) (by omega)
             simp only [p0e0, p0e1, p0e2, p0e3, p0e4, p0e5, p0e6, p0e7, p0e8, p0e9, p0e10, p0e11, p0e12, p0e13, p0e14, p0e15, p0e16, p0e17, p0e18, p0e19, p0e20, p0e21, p0e22, p0e23, p0e24, p0e25, p0e26, p0e27, p0e28, p0e29, p0e30, p0e31, p0e32, p0e33, p0e34, p0e35, p0e36, p0e37, p0e38, p0e39, p0e40, p0e41, p0e42, p0e43, p0e44, p0e45, p0e46, p0e47, p0e48, p0e49, p0e50, p0e51, p0e52, p0e53, p0e54, d_c, d_v, d_ap, d_sli, d_slnil, d_bv, d_bc, d_mul, d_add, d_sub, d_wrap, d_tdiv, d_mx, hE, fnsf0, fnsf1, fnsf2, fnsf3, fnsf4, fnsf5, fnsf6, fnsf7, fnsf8, fnsf9] at hf
             omega)
          | (have r0 := winC_ok (cw := E.i 14) (sz := E.i 1) k3 (by omega)
             have r1 := pRate_ok (cw := winC (E.i 14) (E.i 1)) (sst := winC (E.i 14) (E.i 1)) (by omega)
             simp only [p0e0, p0e1, p0e2, p0e3, p0e4, p0e5, p0e6, p0e7, p0e8, p0e9, p0e10, p0e11, p0e12, p0e13, p0e14, p0e15, p0e16, p0e17, p0e18, p0e19, p0e20, p0e21, p0e22, p0e23, p0e24, p0e25, p0e26, p0e27, p0e28, p0e29, p0e30, p0e31, p0e32, p0e33, p0e34, p0e35, p0e36, p0e37, p0e38, p0e39, p0e40, p0e41, p0e42, p0e43, p0e44, p0e45, p0e46, p0e47, p0e48, p0e49, p0e50, p0e51, p0e52, p0e53, p0e54, d_c, d_v, d_ap, d_sli, d_slnil, d_bv, d_bc, d_mul, d_add, d_sub, d_wrap, d_tdiv, d_mx, hE, fnsf0, fnsf1, fnsf2, fnsf3, fnsf4, fnsf5, fnsf6, fnsf7, fnsf8, fnsf9] at hf
             omega)
          | (have r1 := pRate_ok (cw := E.i 1 * 2) (sst := E.i 14 / 2) (by omega)
             simp only [p0e0, p0e1, p0e2, p0e3, p0e4, p0e5, p0e6, p0e7, p0e8, p0e9, p0e10, p0e11, p0e12, p0e13, p0e14, p0e15, p0e16, p0e17, p0e18, p0e19, p0e20, p0e21, p0e22, p0e23, p0e24, p0e25, p0e26, p0e27, p0e28, p0e29, p0e30, p0e31, p0e32, p0e33, p0e34, p0e35, p0e36, p0e37, p0e38, p0e39, p0e40, p0e41, p0e42, p0e43, p0e44, p0e45, p0e46, p0e47, p0e48, p0e49, p0e50, p0e51, p0e52, p0e53, p0e54, d_c, d_v, d_ap, d_sli, d_slnil, d_bv, d_bc, d_mul, d_add, d_sub, d_wrap, d_tdiv, d_mx, hE, fnsf0, fnsf1, fnsf2, fnsf3, fnsf4, fnsf5, fnsf6, fnsf7, fnsf8, fnsf9, hhalf] at hf
             omega)
      · -- p0x10
        intro hf
        skip
        simp only [facts_cons, facts_nil, lt_t, lt_f, le_t, le_f, eq_t, eq_f, and_true, d_c, d_v, d_bv] at hf
        have hs := hstep (by omega)
        obtain ⟨hs1, hs2⟩ := hs
        change (_ ∧ _) ∨ (_ ∧ E.i 14 ≤ 190000 ∧ E.i 13 = -1 ∧ E.i 15 = 4611686018427387903) ∨ (_ ∧ _) ∨ _ at hs2
        first
          | omega
          | (have r1 := pRate_ok (cw := E.i 14) (sst := E.i 15) k3
             have r2 := pRate_ok (cw := ackCw (E.i 14) (p0e5.den E) (E.i 1)) (sst := E.i 15) (ackCw_ok (by omega) (by omega))
             simp only [p0e0, p0e1, p0e2, p0e3, p0e4, p0e5, p0e6, p0e7, p0e8, p0e9, p0e10, p0e11, p0e12, p0e13, p0e14, p0e15, p0e16, p0e17, p0e18, p0e19, p0e20, p0e21, p0e22, p0e23, p0e24, p0e25, p0e26, p0e27, p0e28, p0e29, p0e30, p0e31, p0e32, p0e33, p0e34, p0e35, p0e36, p0e37, p0e38, p0e39, p0e40, p0e41, p0e42, p0e43, p0e44, p0e45, p0e46, p0e47, p0e48, p0e49, p0e50, p0e51, p0e52, p0e53, p0e54, d_c, d_v, d_ap, d_sli, d_slnil, d_bv, d_bc, d_mul, d_add, d_sub, d_wrap, d_tdiv, d_mx, hE, fnsf0, fnsf1, fnsf2, fnsf3, fnsf4, fnsf5, fnsf6, fnsf7, fnsf8, fnsf9] at hf r2
             omega)
          | (have r1 := pRate_ok (cw := E.i 14) (sst := E.i 15) k3
             simp only [p0e0, p0e1, p0e2, p0e3, p0e4, p0e5, p0e6, p0e7, p0e8, p0e9, p0e10, p0e11, p0e12, p0e13, p0e14, p0e15, p0e16, p0e17, p0e18, p0e19, p0e20, p0e21, p0e22, p0e23, p0e24, p0e25, p0e26, p0e27, p0e28, p0e29, p0e30, p0e31, p0e32, p0e33, p0e34, p0e35, p0e36, p0e37, p0e38, p0e39, p0e40, p0e41, p0e42, p0e43, p0e44, p0e45, p0e46, p0e47, p0e48, p0e49, p0e50, p0e51, p0e52, p0e53, p0e54, d_c, d_v, d_ap, d_sli, d_slnil, d_bv, d_bc, d_mul, d_add, d_sub, d_wrap, d_tdiv, d_mx, hE, fnsf0, fnsf1, fnsf2, fnsf3, fnsf4, fnsf5, fnsf6, fnsf7, fnsf8, fnsf9] at hf
             omega)
          | (have r0 := winR_ok (cw := E.i 14) (sz := E.i 1) k3 (by omega)
             have r1 := pRate_ok (cw := winR (E.i 14) (E.i 1)) (sst := winR (E.i 14) (E.i 1)) (by omega)
             simp only [p0e0, p0e1, p0e2, p0e3, p0e4, p0e5, p0e6, p0e7, p0e8, p0e9, p0e10, p0e11, p0e12, p0e13, p0e14, p0e15, p0e16, p0e17, p0e18, p0e19, p0e20, p0e21, p0e22, p0e23, p0e24, p0e25, p0e26, p0e27, p0e28, p0e29, p0e30, p0e31, p0e32, p0e33, p0e34, p0e35, p0e36, p0e37, p0e38, p0e39, p0e40, p0e41, p0e42, p0e43, p0e44, p0e45, p0e46, p0e47, p0e48, p0e49, p0e50, p0e51, p0e52, p0e53, p0e54, d_c, d_v, d_ap, d_sli, d_slnil, d_bv, d_bc, d_mul, d_add, d_sub, d_wrap, d_tdiv, d_mx, hE, fnsf0, fnsf1, fnsf2, fnsf3, fnsf4, fnsf5, fnsf6, fnsf7, fnsf8, fnsf9] at hf
             omega)
          | (have r0 := winC_ok (cw := E.i 14) (sz := E.i 1) k3 (by omega)
             have r1 := pRate_ok (cw := winC (E.i 14) (E.i 1)) (sst := winC (E.i 14) (E.i 1)) (by omega)
             simp only [p0e0, p0e1, p0e2, p0e3, p0e4, p0e5, p0e6, p0e7, p0e8, p0e9, p0e10, p0e11, p0e12, p0e13, p0e14, p0e15, p0e16, p0e17, p0e18, p0e19, p0e20, p0e21, p0e22, p0e23, p0e24, p0e25, p0e26, p0e27, p0e28, p0e29, p0e30, p0e31, p0e32, p0e33, p0e34, p0e35, p0e36, p0e37, p0e38, p0e39, p0e40, p0e41, p0e42, p0e43, p0e44, p0e45, p0e46, p0e47, p0e48, p0e49, p0e50, p0e51, p0e52, p0e53, p0e54, d_c, d_v, d_ap, d_sli, d_slnil, d_bv, d_bc, d_mul, d_add, d_sub, d_wrap, d_tdiv, d_mx, hE, fnsf0, fnsf1, fnsf2, fnsf3, fnsf4, fnsf5, fnsf6, fnsf7, fnsf8, fnsf9] at hf
             omega)
          | (have r1 := pRate_ok (cw := E.i 1 * 2) (sst := E.i 14 / 2) (by omega)
             simp only [p0e0, p0e1, p0e2, p0e3, p0e4, p0e5, p0e6, p0e7, p0e8, p0e9, p0e10, p0e11, p0e12, p0e13, p0e14, p0e15, p0e16, p0e17, p0e18, p0e19, p0e20, p0e21, p0e22, p0e23, p0e24, p0e25, p0e26, p0e27, p0e28, p0e29, p0e30, p0e31, p0e32, p0e33, p0e34, p0e35, p0e36, p0e37, p0e38, p0e39, p0e40, p0e41, p0e42, p0e43, p0e44, p0e45, p0e46, p0e47, p0e48, p0e49, p0e50, p0e51, p0e52, p0e53, p0e54, d_c, d_v, d_ap, d_sli, d_slnil, d_bv, d_bc, d_mul, d_add, d_sub, d_wrap, d_tdiv, d_mx, hE, fnsf0, fnsf1, fnsf2, fnsf3, fnsf4, fnsf5, fnsf6, fnsf7, fnsf8, fnsf9, hhalf] at hf
             omega)
      · -- p0x11
        intro hf
        skip
        simp only [facts_cons, facts_nil, lt_t, lt_f, le_t, le_f, eq_t, eq_f, and_true, d_c, d_v, d_bv] at hf
        have hs := hstep (by omega)
        obtain ⟨hs1, hs2⟩ := hs
        change (_ ∧ _) ∨ (_ ∧ E.i 14 ≤ 190000 ∧ E.i 13 = -1 ∧ E.i 15 = 4611686018427387903) ∨ (_ ∧ _) ∨ _ at hs2
        first
          | omega
          | (have r1 := pRate_ok (cw := E.i 14) (sst := E.i 15) k3
             have r2 := pRate_ok (cw := ackCw (E.i 14) (p0e5.den E) (E.i 1)) (sst := E.i 15) (ackCw_ok (by omega) (by omega))
             simp only [p0e0, p0e1, p0e2, p0e3, p0e4, p0e5, p0e6, p0e7, p0e8, p0e9, p0e10, p0e11, p0e12, p0e13, p0e14, p0e15, p0e16, p0e17, p0e18, p0e19, p0e20, p0e21, p0e22, p0e23, p0e24, p0e25, p0e26, p0e27, p0e28, p0e29, p0e30, p0e31, p0e32, p0e33, p0e34, p0e35, p0e36, p0e37, p0e38, p0e39, p0e40, p0e41, p0e42, p0e43, p0e44, p0e45, p0e46, p0e47, p0e48, p0e49, p0e50, p0e51, p0e52, p0e53, p0e54, d_c, d_v, d_ap, d_sli, d_slnil, d_bv, d_bc, d_mul, d_add, d_sub, d_wrap, d_tdiv, d_mx, hE, fnsf0, fnsf1, fnsf2, fnsf3, fnsf4, fnsf5, fnsf6, fnsf7, fnsf8, fnsf9] at hf r2
             omega)
          | (have r1 := pRate_ok (cw := E.i 14) (sst := E.i 15) k3
             simp only [p0e0, p0e1, p0e2, p0e3, p0e4, p0e5, p0e6, p0e7, p0e8, p0e9, p0e10, p0e11, p0e12, p0e13, p0e14, p0e15, p0e16, p0e17, p0e18, p0e19, p0e20, p0e21, p0e22, p0e23, p0e24, p0e25, p0e26, p0e27, p0e28, p0e29, p0e30, p0e31, p0e32, p0e33, p0e34, p0e35, p0e36, p0e37, p0e38, p0e39, p0e40, p0e41, p0e42, p0e43, p0e44, p0e45, p0e46, p0e47, p0e48, p0e49, p0e50, p0e51, p0e52, p0e53, p0e54, d_c, d_v, d_ap, d_sli, d_slnil, d_bv, d_bc, d_mul, d_add, d_sub, d_wrap, d_tdiv, d_mx, hE, fnsf0, fnsf1, fnsf2, fnsf3, fnsf4, fnsf5, fnsf6, fnsf7, fnsf8, fnsf9] at hf
             omega)
          | (have r0 := winR_ok (cw := E.i 14) (sz := E.i 1) k3 (by omega)
             have r1 := pRate_ok (cw := winR (E.i 14) (E.i 1)) (sst := winR (E.i 14) (E.i 1)) (by omega)
             simp only [p0e0, p0e1, p0e2, p0e3, p0e4, p0e5, p0e6, p0e7, p0e8, p0e9, p0e10, p0e11, p0e12, p0e13, p0e14, p0e15, p0e16, p0e17, p0e18, p0e19, p0e20, p0e21, p0e22, p0e23, p0e24, p0e25, p0e26, p0e27, p0e28, p0e29, p0e30, p0e31, p0e32, p0e33, p0e34, p0e35, p0e36, p0e37, p0e38, p0e39, p0e40, p0e41, p0e42, p0e43, p0e44, p0e45, p0e46, p0e47, p0e48, p0e49, p0e50, p0e51, p0e52, p0e53, p0e54, d_c, d_v, d_ap, d_sli, d_slnil, d_bv, d_bc, d_mul, d_add, d_sub, d_wrap, d_tdiv, d_mx, hE, fnsf0, fnsf1, fnsf2, fnsf3, fnsf4, fnsf5, fnsf6, fnsf7, fnsf8, fnsf9] at hf
             omega)
          | (have r0 := winC_ok (cw := E.i 14) (sz := E.i 1) k3 (by omega)
             have r1 := pRate_ok (cw := winC (E.i 14) (E.i 1)) (sst := winC (E.i 14) (E.i 1)) (by omega)
             simp only [p0e0, p0e1, p0e2, p0e3, p0e4, p0e5, p0e6, p0e7, p0e8, p0e9, p0e10, p0e11, p0e12, p0e13, p0e14, p0e15, p0e16, p0e17, p0e18, p0e19, p0e20, p0e21, p0e22, p0e23, p0e24, p0e25, p0e26, p0e27, p0e28, p0e29, p0e30, p0e31, p0e32, p0e33, p0e34, p0e35, p0e36, p0e37, p0e38, p0e39, p0e40, p0e41, p0e42, p0e43, p0e44, p0e45, p0e46, p0e47, p0e48, p0e49, p0e50, p0e51, p0e52, p0e53, p0e54, d_c, d_v, d_ap, d_sli, d_slnil, d_bv, d_bc, d_mul, d_add, d_sub, d_wrap, d_tdiv, d_mx, hE, fnsf0, fnsf1, fnsf2, fnsf3, fnsf4, fnsf5, fnsf6, fnsf7, fnsf8, fnsf9] at hf
             omega)
          | (have r1 := pRate_ok (cw := E.i 1 * 2) (sst := E.i 14 / 2) (by omega)
             simp only [p0e0, p0e1, p0e2, p0e3, p0e4, p0e5, p0e6, p0e7, p0e8, p0e9, p0e10, p0e11, p0e12, p0e13, p0e14, p0e15, p0e16, p0e17, p0e18, p0e19, p0e20, p0e21, p0e22, p0e23, p0e24, p0e25, p0e26, p0e27, p0e28, p0e29, p0e30, p0e31, p0e32, p0e33, p0e34, p0e35, p0e36, p0e37, p0e38, p0e39, p0e40, p0e41, p0e42, p0e43, p0e44, p0e45, p0e46, p0e47, p0e48, p0e49, p0e50, p0e51, p0e52, p0e53, p0e54, d_c, d_v, d_ap, d_sli, d_slnil, d_bv, d_bc, d_mul, d_add, d_sub, d_wrap, d_tdiv, d_mx, hE, fnsf0, fnsf1, fnsf2, fnsf3, fnsf4, fnsf5, fnsf6, fnsf7, fnsf8, fnsf9, hhalf] at hf
             omega)
      · -- p0x12
        intro hf
        skip
        simp only [facts_cons, facts_nil, lt_t, lt_f, le_t, le_f, eq_t, eq_f, and_true, d_c, d_v, d_bv] at hf
        have hs := hstep (by omega)
        obtain ⟨hs1, hs2⟩ := hs
        change (_ ∧ _) ∨ (_ ∧ E.i 14 ≤ 190000 ∧ E.i 13 = -1 ∧ E.i 15 = 4611686018427387903) ∨ (_ ∧ _) ∨ _ at hs2
        first
          | omega
          | (have r1 := pRate_ok (cw := E.i 14) (sst := E.i 15) k3
             have r2 := pRate_ok (cw := ackCw (E.i 14) (p0e5.den E) (E.i 1)) (sst := E.i 15) (ackCw_ok (by omega) (by omega))
             simp only [p0e0, p0e1, p0e2, p0e3, p0e4, p0e5, p0e6, p0e7, p0e8, p0e9, p0e10, p0e11, p0e12, p0e13, p0e14, p0e15, p0e16, p0e17, p0e18, p0e19, p0e20, p0e21, p0e22, p0e23, p0e24, p0e25, p0e26, p0e27, p0e28, p0e29, p0e30, p0e31, p0e32, p0e33, p0e34, p0e35, p0e36, p0e37, p0e38, p0e39, p0e40, p0e41, p0e42, p0e43, p0e44, p0e45, p0e46, p0e47, p0e48, p0e49, p0e50, p0e51, p0e52, p0e53, p0e54, d_c, d_v, d_ap, d_sli, d_slnil, d_bv, d_bc, d_mul, d_add, d_sub, d_wrap, d_tdiv, d_mx, hE, fnsf0, fnsf1, fnsf2, fnsf3, fnsf4, fnsf5, fnsf6, fnsf7, fnsf8, fnsf9] at hf r2
             omega)
          | (have r1 := pRate_ok (cw := E.i 14) (sst := E.i 15) k3
             simp only [p0e0, p0e1, p0e2, p0e3, p0e4, p0e5, p0e6, p0e7, p0e8, p0e9, p0e10, p0e11, p0e12, p0e13, p0e14, p0e15, p0e16, p0e17, p0e18, p0e19, p0e20, p0e21, p0e22, p0e23, p0e24, p0e25, p0e26, p0e27, p0e28, p0e29, p0e30, p0e31, p0e32, p0e33, p0e34, p0e35, p0e36, p0e37, p0e38, p0e39, p0e40, p0e41, p0e42, p0e43, p0e44, p0e45, p0e46, p0e47, p0e48, p0e49, p0e50, p0e51, p0e52, p0e53, p0e54, d_c, d_v, d_ap, d_sli, d_slnil, d_bv, d_bc, d_mul, d_add, d_sub, d_wrap, d_tdiv, d_mx, hE, fnsf0, fnsf1, fnsf2, fnsf3, fnsf4, fnsf5, fnsf6, fnsf7, fnsf8, fnsf9] at hf
             omega)
          | (have r0 := winR_ok (cw := E.i 14) (sz := E.i 1) k3 (by omega)
             have r1 := pRate_ok (cw := winR (E.i 14) (E.i 1)) (sst := winR (E.i 14) (E.i 1)) (by omega)
             simp only [p0e0, p0e1, p0e2, p0e3, p0e4, p0e5, p0e6, p0e7, p0e8, p0e9, p0e10, p0e11, p0e12, p0e13, p0e14, p0e15, p0e16, p0e17, p0e18, p0e19, p0e20, p0e21, p0e22, p0e23, p0e24, p0e25, p0e26, p0e27, p0e28, p0e29, p0e30, p0e31, p0e32, p0e33, p0e34, p0e35, p0e36, p0e37, p0e38, p0e39, p0e40, p0e41, p0e42, p0e43, p0e44, p0e45, p0e46, p0e47, p0e48, p0e49, p0e50, p0e51, p0e52, p0e53, p0e54, d_c, d_v, d_ap, d_sli, d_slnil, d_bv, d_bc, d_mul, d_add, d_sub, d_wrap, d_tdiv, d_mx, hE, fnsf0, fnsf1, fnsf2, fnsf3, fnsf4, fnsf5, fnsf6, fnsf7, fnsf8, fnsf9] at hf
             omega)
          | (have r0 := winC_ok (cw := E.i 14) (sz := E.i 1) k3 (by omega)
             have r1 := pRate_ok (cw := winC (E.i 14) (E.i 1)) (sst := winC (E.i 14) (E.i 1)) (by omega)
             simp only [p0e0, p0e1, p0e2, p0e3, p0e4, p0e5, p0e6, p0e7, p0e8, p0e9, p0e10, p0e11, p0e12, p0e13, p0e14, p0e15, p0e16, p0e17, p0e18, p0e19, p0e20, p0e21, p0e22, p0e23, p0e24, p0e25, p0e26, p0e27, p0e28, p0e29, p0e30, p0e31, p0e32, p0e33, p0e34, p0e35, p0e36, p0e37, p0e38, p0e39, p0e40, p0e41, p0e42, p0e43, p0e44, p0e45, p0e46, p0e47, p0e48, p0e49, p0e50, p0e51, p0e52, p0e53, p0e54, d_c, d_v, d_ap, d_sli, d_slnil, d_bv, d_bc, d_mul, d_add, d_sub, d_wrap, d_tdiv, d_mx, hE, fnsf0, fnsf1, fnsf2, fnsf3, fnsf4, fnsf5, fnsf6, fnsf7, fnsf8, fnsf9] at hf
             omega)
          | (have r1 := pRate_ok (cw := E.i 1 * 2) (sst := E.i 14 / 2) (by omega)
             simp only [p0e0, p0e1, p0e2, p0e3, p0e4, p0e5, p0e6, p0e7, p0e8, p0e9, p0e10, p0e11, p0e12, p0e13, p0e14, p0e15, p0e16, p0e17, p0e18, p0e19, p0e20, p0e21, p0e22, p0e23, p0e24, p0e25, p0e26, p0e27, p0e28, p0e29, p0e30, p0e31, p0e32, p0e33, p0e34, p0e35, p0e36, p0e37, p0e38, p0e39, p0e40, p0e41, p0e42, p0e43, p0e44, p0e45, p0e46, p0e47, p0e48, p0e49, p0e50, p0e51, p0e52, p0e53, p0e54, d_c, d_v, d_ap, d_sli, d_slnil, d_bv, d_bc, d_mul, d_add, d_sub, d_wrap, d_tdiv, d_mx, hE, fnsf0, fnsf1, fnsf2, fnsf3, fnsf4, fnsf5, fnsf6, fnsf7, fnsf8, fnsf9, hhalf] at hf
             omega)
      · -- p0x13
        intro hf
        skip
        simp only [facts_cons, facts_nil, lt_t, lt_f, le_t, le_f, eq_t, eq_f, and_true, d_c, d_v, d_bv] at hf
        have hs := hstep (by omega)
        obtain ⟨hs1, hs2⟩ := hs
        change (_ ∧ _) ∨ (_ ∧ E.i 14 ≤ 190000 ∧ E.i 13 = -1 ∧ E.i 15 = 4611686018427387903) ∨ (_ ∧ _) ∨ _ at hs2
        first
          | omega
          | (have r1 := pRate_ok (cw := E.i 14) (sst := E.i 15) k3
             have r2 := pRate_ok (cw := ackCw (E.i 14) (p0e5.den E) (E.i 1)) (sst := E.i 15) (ackCw_ok (by omega) (by omega))
             simp only [p0e0, p0e1, p0e2, p0e3, p0e4, p0e5, p0e6, p0e7, p0e8, p0e9, p0e10, p0e11, p0e12, p0e13, p0e14, p0e15, p0e16, p0e17, p0e18, p0e19, p0e20, p0e21, p0e22, p0e23, p0e24, p0e25, p0e26, p0e27, p0e28, p0e29, p0e30, p0e31, p0e32, p0e33, p0e34, p0e35, p0e36, p0e37, p0e38, p0e39, p0e40, p0e41, p0e42, p0e43, p0e44, p0e45, p0e46, p0e47, p0e48, p0e49, p0e50, p0e51, p0e52, p0e53, p0e54, d_c, d_v, d_ap, d_sli, d_slnil, d_bv, d_bc, d_mul, d_add, d_sub, d_wrap, d_tdiv, d_mx, hE, fnsf0, fnsf1, fnsf2, fnsf3, fnsf4, fnsf5, fnsf6, fnsf7, fnsf8, fnsf9] at hf r2
             omega)
          | (have r1 := pRate_ok (cw := E.i 14) (sst := E.i 15) k3
             simp only [p0e0, p0e1, p0e2, p0e3, p0e4, p0e5, p0e6, p0e7, p0e8, p0e9, p0e10, p0e11, p0e12, p0e13, p0e14, p0e15, p0e16, p0e17, p0e18, p0e19, p0e20, p0e21, p0e22, p0e23, p0e24, p0e25, p0e26, p0e27, p0e28, p0e29, p0e30, p0e31, p0e32, p0e33, p0e34, p0e35, p0e36, p0e37, p0e38, p0e39, p0e40, p0e41, p0e42, p0e43, p0e44, p0e45, p0e46, p0e47, p0e48, p0e49, p0e50, p0e51, p0e52, p0e53, p0e54, d_c, d_v, d_ap, d_sli, d_slnil, d_bv, d_bc, d_mul, d_add, d_sub, d_wrap, d_tdiv, d_mx, hE, fnsf0, fnsf1, fnsf2, fnsf3, fnsf4, fnsf5, fnsf6, fnsf7, fnsf8, fnsf9] at hf
             omega)
          | (have r0 := winR_ok (cw := E.i 14) (sz := E.i 1) k3 (by omega)
             have r1 := pRate_ok (cw := winR (E.i 14) (E.i 1)) (sst := winR (E.i 14) (E.i 1)) (by omega)
             simp only [p0e0, p0e1, p0e2, p0e3, p0e4, p0e5, p0e6, p0e7, p0e8, p0e9, p0e10, p0e11, p0e12, p0e13, p0e14, p0e15, p0e16, p0e17, p0e18, p0e19, p0e20, p0e21, p0e22, p0e23, p0e24, p0e25, p0e26, p0e27, p0e28, p0e29, p0e30, p0e31, p0e32, p0e33, p0e34, p0e35, p0e36, p0e37, p0e38, p0e39, p0e40, p0e41, p0e42, p0e43, p0e44, p0e45, p0e46, p0e47, p0e48, p0e49, p0e50, p0e51, p0e52, p0e53, p0e54, d_c, d_v, d_ap, d_sli, d_slnil, d_bv, d_bc, d_mul, d_add, d_sub, d_wrap, d_tdiv, d_mx, hE, fnsf0, fnsf1, fnsf2, fnsf3, fnsf4, fnsf5, fnsf6, fnsf7, fnsf8, fnsf9] at hf
             omega)
          | (have r0 := winC_ok (cw := E.i 14) (sz := E.i 1) k3 (by omega)
             have r1 := pRate_ok (cw := winC (E.i 14) (E.i 1)) (sst := winC (E.i 14) (E.i 1)) (by omega)
             simp only [p0e0, p0e1, p0e2, p0e3, p0e4, p0e5, p0e6, p0e7, p0e8, p0e9, p0e10, p0e11, p0e12, p0e13, p0e14, p0e15, p0e16, p0e17, p0e18, p0e19, p0e20, p0e21, p0e22, p0e23, p0e24, p0e25, p0e26, p0e27, p0e28, p0e29, p0e30, p0e31, p0e32, p0e33, p0e34, p0e35, p0e36, p0e37, p0e38, p0e39, p0e40, p0e41, p0e42, p0e43, p0e44, p0e45, p0e46, p0e47, p0e48, p0e49, p0e50, p0e51, p0e52, p0e53, p0e54, d_c, d_v, d_ap, d_sli, d_slnil, d_bv, d_bc, d_mul, d_add, d_sub, d_wrap, d_tdiv, d_mx, hE, fnsf0, fnsf1, fnsf2, fnsf3, fnsf4, fnsf5, fnsf6, fnsf7, fnsf8, fnsf9] at hf
             omega)
          | (have r1 := pRate_ok (cw := E.i 1 * 2) (sst := E.i 14 / 2) (by omega)
             simp only [p0e0, p0e1, p0e2, p0e3, p0e4, p0e5, p0e6, p0e7, p0e8, p0e9, p0e10, p0e11, p0e12, p0e13, p0e14, p0e15, p0e16, p0e17, p0e18, p0e19, p0e20, p0e21, p0e22, p0e23, p0e24, p0e25, p0e26, p0e27, p0e28, p0e29, p0e30, p0e31, p0e32, p0e33, p0e34, p0e35, p0e36, p0e37, p0e38, p0e39, p0e40, p0e41, p0e42, p0e43, p0e44, p0e45, p0e46, p0e47, p0e48, p0e49, p0e50, p0e51, p0e52, p0e53, p0e54, d_c, d_v, d_ap, d_sli, d_slnil, d_bv, d_bc, d_mul, d_add, d_sub, d_wrap, d_tdiv, d_mx, hE, fnsf0, fnsf1, fnsf2, fnsf3, fnsf4, fnsf5, fnsf6, fnsf7, fnsf8, fnsf9, hhalf] at hf
             omega)
      · -- p0x14
        intro hf
        refine ⟨⟨_, rfl, .inr ⟨rfl, rfl⟩⟩, fun o => ?_⟩
        have hK : p0e1.den E = 2 := by
          have := hf ((.eq p0e1 (.c 2)), true) (by simp)
          simpa only [eq_t, d_c] using this
        have hlt : E.i 3 < E.i 2 := by
          have := hf ((.lt (.v 3) (.v 2)), true) (by simp)
          simpa only [lt_t, d_v] using this
        have hcw2 : (SE.den E (.v 14)) = E.i 14 := by simp only [p0e0, p0e1, p0e2, p0e3, p0e4, p0e5, p0e6, p0e7, p0e8, p0e9, p0e10, p0e11, p0e12, p0e13, p0e14, p0e15, p0e16, p0e17, p0e18, p0e19, p0e20, p0e21, p0e22, p0e23, p0e24, p0e25, p0e26, p0e27, p0e28, p0e29, p0e30, p0e31, p0e32, p0e33, p0e34, p0e35, p0e36, p0e37, p0e38, p0e39, p0e40, p0e41, p0e42, p0e43, p0e44, p0e45, p0e46, p0e47, p0e48, p0e49, p0e50, p0e51, p0e52, p0e53, p0e54, d_c, d_v, d_ap, d_sli, d_slnil, d_bv, d_bc, d_mul, d_add, d_sub, d_wrap, d_tdiv, d_mx, hE, fnsf0, fnsf1, fnsf2, fnsf3, fnsf4, fnsf5, fnsf6, fnsf7, fnsf8, fnsf9]
        have hsst2 : (SE.den E (.v 15)) = E.i 15 := by simp only [p0e0, p0e1, p0e2, p0e3, p0e4, p0e5, p0e6, p0e7, p0e8, p0e9, p0e10, p0e11, p0e12, p0e13, p0e14, p0e15, p0e16, p0e17, p0e18, p0e19, p0e20, p0e21, p0e22, p0e23, p0e24, p0e25, p0e26, p0e27, p0e28, p0e29, p0e30, p0e31, p0e32, p0e33, p0e34, p0e35, p0e36, p0e37, p0e38, p0e39, p0e40, p0e41, p0e42, p0e43, p0e44, p0e45, p0e46, p0e47, p0e48, p0e49, p0e50, p0e51, p0e52, p0e53, p0e54, d_c, d_v, d_ap, d_sli, d_slnil, d_bv, d_bc, d_mul, d_add, d_sub, d_wrap, d_tdiv, d_mx, hE, fnsf0, fnsf1, fnsf2, fnsf3, fnsf4, fnsf5, fnsf6, fnsf7, fnsf8, fnsf9]
        have hcell0 : (SE.den E (.v 14)) = E.i 14 := by simp only [p0e0, p0e1, p0e2, p0e3, p0e4, p0e5, p0e6, p0e7, p0e8, p0e9, p0e10, p0e11, p0e12, p0e13, p0e14, p0e15, p0e16, p0e17, p0e18, p0e19, p0e20, p0e21, p0e22, p0e23, p0e24, p0e25, p0e26, p0e27, p0e28, p0e29, p0e30, p0e31, p0e32, p0e33, p0e34, p0e35, p0e36, p0e37, p0e38, p0e39, p0e40, p0e41, p0e42, p0e43, p0e44, p0e45, p0e46, p0e47, p0e48, p0e49, p0e50, p0e51, p0e52, p0e53, p0e54, d_c, d_v, d_ap, d_sli, d_slnil, d_bv, d_bc, d_mul, d_add, d_sub, d_wrap, d_tdiv, d_mx, hE, fnsf0, fnsf1, fnsf2, fnsf3, fnsf4, fnsf5, fnsf6, fnsf7, fnsf8, fnsf9]
        have hcell1 : (SE.den E (.v 15)) = E.i 15 := by simp only [p0e0, p0e1, p0e2, p0e3, p0e4, p0e5, p0e6, p0e7, p0e8, p0e9, p0e10, p0e11, p0e12, p0e13, p0e14, p0e15, p0e16, p0e17, p0e18, p0e19, p0e20, p0e21, p0e22, p0e23, p0e24, p0e25, p0e26, p0e27, p0e28, p0e29, p0e30, p0e31, p0e32, p0e33, p0e34, p0e35, p0e36, p0e37, p0e38, p0e39, p0e40, p0e41, p0e42, p0e43, p0e44, p0e45, p0e46, p0e47, p0e48, p0e49, p0e50, p0e51, p0e52, p0e53, p0e54, d_c, d_v, d_ap, d_sli, d_slnil, d_bv, d_bc, d_mul, d_add, d_sub, d_wrap, d_tdiv, d_mx, hE, fnsf0, fnsf1, fnsf2, fnsf3, fnsf4, fnsf5, fnsf6, fnsf7, fnsf8, fnsf9]
        have hcell4 : p0e30.den E = pBudget (p0e3.den E) (pRate (E.i 14) (E.i 15)) (E.i 5) (E.i 6) := by simp only [p0e0, p0e1, p0e2, p0e3, p0e4, p0e5, p0e6, p0e7, p0e8, p0e9, p0e10, p0e11, p0e12, p0e13, p0e14, p0e15, p0e16, p0e17, p0e18, p0e19, p0e20, p0e21, p0e22, p0e23, p0e24, p0e25, p0e26, p0e27, p0e28, p0e29, p0e30, p0e31, p0e32, p0e33, p0e34, p0e35, p0e36, p0e37, p0e38, p0e39, p0e40, p0e41, p0e42, p0e43, p0e44, p0e45, p0e46, p0e47, p0e48, p0e49, p0e50, p0e51, p0e52, p0e53, p0e54, d_c, d_v, d_ap, d_sli, d_slnil, d_bv, d_bc, d_mul, d_add, d_sub, d_wrap, d_tdiv, d_mx, hE, fnsf0, fnsf1, fnsf2, fnsf3, fnsf4, fnsf5, fnsf6, fnsf7, fnsf8, fnsf9]
        have hcell5 : p0e31.den E = pUntil (pRate (E.i 14) (E.i 15)) (E.i 5) (E.i 6) := by simp only [p0e0, p0e1, p0e2, p0e3, p0e4, p0e5, p0e6, p0e7, p0e8, p0e9, p0e10, p0e11, p0e12, p0e13, p0e14, p0e15, p0e16, p0e17, p0e18, p0e19, p0e20, p0e21, p0e22, p0e23, p0e24, p0e25, p0e26, p0e27, p0e28, p0e29, p0e30, p0e31, p0e32, p0e33, p0e34, p0e35, p0e36, p0e37, p0e38, p0e39, p0e40, p0e41, p0e42, p0e43, p0e44, p0e45, p0e46, p0e47, p0e48, p0e49, p0e50, p0e51, p0e52, p0e53, p0e54, d_c, d_v, d_ap, d_sli, d_slnil, d_bv, d_bc, d_mul, d_add, d_sub, d_wrap, d_tdiv, d_mx, hE, fnsf0, fnsf1, fnsf2, fnsf3, fnsf4, fnsf5, fnsf6, fnsf7, fnsf8, fnsf9]
        refine ⟨⟨i + 1, fin7 hI (by omega) (hk0.trans hK) hk1 hk2 hk3 hk4 rfl rfl rfl rfl rfl (s' := ⟨E.i 12, E.i 11, E.i 13, E.i 14, E.i 15, E.i 5, E.i 6⟩) (by rw [cStep_2a (by show p0e9.den E ≤ E.i 13; have := hf ((.le p0e9 (.v 13)), true) (by simp); simpa only [le_t, d_v] using this)]; rfl) (CS.ext rfl rfl rfl hcw2 hsst2 rfl rfl) (e := p0e0) (l := (.i (.v 14) (.b (.lt (.v 14) (.v 15)) (.b (.c false) (.b (.lt p0e5 (.v 14)) (.b (.le (.v 1) p0e30) (.i p0e31 .nil))))))) he0 rfl ?_⟩, fun b hb => ?_⟩
        · intro c hc
          match c, hc with
          | 0, _ => exact hcell0
          | 1, _ =>
            show b2i (decide (SE.den E (.v 14) < SE.den E (.v 15))) = b2i (decide (E.i 14 < E.i 15))
            first | rw [hcell0, hcell1] | rw [hcell0]
          | 2, _ =>
            exact recF (by show E.i 12 = -1; have := hf ((.eq (.v 12) (.c (-1))), true) (by simp); simpa only [eq_t, d_v, d_c] using this)
          | 3, _ =>
            show b2i (decide (p0e5.den E < SE.den E (.v 14))) = b2i (decide (p0e5.den E < E.i 14))
            rw [hcell0]
          | 4, _ =>
            show b2i (decide (E.i 1 ≤ p0e30.den E)) = b2i (decide (E.i 1 ≤ pBudget (p0e3.den E) (pRate (E.i 14) (E.i 15)) (E.i 5) (E.i 6)))
            rw [hcell4]
          | 5, _ => exact hcell5
        · obtain rfl := Option.some.inj hb
          show (E0.i 2 - (E.i 3 + 1)).toNat < _
          omega
      · -- p0x15
        intro hf
        skip
        simp only [facts_cons, facts_nil, lt_t, lt_f, le_t, le_f, eq_t, eq_f, and_true, d_c, d_v, d_bv] at hf
        have hs := hstep (by omega)
        obtain ⟨hs1, hs2⟩ := hs
        change (_ ∧ _) ∨ (_ ∧ E.i 14 ≤ 190000 ∧ E.i 13 = -1 ∧ E.i 15 = 4611686018427387903) ∨ (_ ∧ _) ∨ _ at hs2
        first
          | omega
          | (have r1 := pRate_ok (cw := E.i 14) (sst := E.i 15) k3
             have r2 := pRate_ok (cw := ackCw (E.i 14) (p0e5.den E) (E.i 1)) (sst := E.i 15) (ackCw_ok (by omega) (by omega))
             simp only [p0e0, p0e1, p0e2, p0e3, p0e4, p0e5, p0e6, p0e7, p0e8, p0e9, p0e10, p0e11, p0e12, p0e13, p0e14, p0e15, p0e16, p0e17, p0e18, p0e19, p0e20, p0e21, p0e22, p0e23, p0e24, p0e25, p0e26, p0e27, p0e28, p0e29, p0e30, p0e31, p0e32, p0e33, p0e34, p0e35, p0e36, p0e37, p0e38, p0e39, p0e40, p0e41, p0e42, p0e43, p0e44, p0e45, p0e46, p0e47, p0e48, p0e49, p0e50, p0e51, p0e52, p0e53, p0e54, d_c, d_v, d_ap, d_sli, d_slnil, d_bv, d_bc, d_mul, d_add, d_sub, d_wrap, d_tdiv, d_mx, hE, fnsf0, fnsf1, fnsf2, fnsf3, fnsf4, fnsf5, fnsf6, fnsf7, fnsf8, fnsf9] at hf r2
             omega)
          | (have r1 := pRate_ok (cw := E.i 14) (sst := E.i 15) k3
             simp only [p0e0, p0e1, p0e2, p0e3, p0e4, p0e5, p0e6, p0e7, p0e8, p0e9, p0e10, p0e11, p0e12, p0e13, p0e14, p0e15, p0e16, p0e17, p0e18, p0e19, p0e20, p0e21, p0e22, p0e23, p0e24, p0e25, p0e26, p0e27, p0e28, p0e29, p0e30, p0e31, p0e32, p0e33, p0e34, p0e35, p0e36, p0e37, p0e38, p0e39, p0e40, p0e41, p0e42, p0e43, p0e44, p0e45, p0e46, p0e47, p0e48, p0e49, p0e50, p0e51, p0e52, p0e53, p0e54, d_c, d_v, d_ap, d_sli, d_slnil, d_bv, d_bc, d_mul, d_add, d_sub, d_wrap, d_tdiv, d_mx, hE, fnsf0, fnsf1, fnsf2, fnsf3, fnsf4, fnsf5, fnsf6, fnsf7, fnsf8, fnsf9] at hf
             omega)
          | (have r0 := winR_ok (cw := E.i 14) (sz := E.i 1) k3 (by omega)
             have r1 := pRate_ok (cw := winR (E.i 14) (E.i 1)) (sst := winR (E.i 14) (E.i 1)) (by omega)
             simp only [p0e0, p0e1, p0e2, p0e3, p0e4, p0e5, p0e6, p0e7, p0e8, p0e9, p0e10, p0e11, p0e12, p0e13, p0e14, p0e15, p0e16, p0e17, p0e18, p0e19, p0e20, p0e21, p0e22, p0e23, p0e24, p0e25, p0e26, p0e27, p0e28, p0e29, p0e30, p0e31, p0e32, p0e33, p0e34, p0e35, p0e36, p0e37, p0e38, p0e39, p0e40, p0e41, p0e42, p0e43, p0e44, p0e45, p0e46, p0e47, p0e48, p0e49, p0e50, p0e51, p0e52, p0e53, p0e54, d_c, d_v, d_ap, d_sli, d_slnil, d_bv, d_bc, d_mul, d_add, d_sub, d_wrap, d_tdiv, d_mx, hE, fnsf0, fnsf1, fnsf2, fnsf3, fnsf4, fnsf5, fnsf6, fnsf7, fnsf8, fnsf9] at hf
             omega)
          | (have r0 := winC_ok (cw := E.i 14) (sz := E.i 1) k3 (by omega)
             have r1 := pRate_ok (cw := winC (E.i 14) (E.i 1)) (sst := winC (E.i 14) (E.i 1)) (by omega)
             simp only [p0e0, p0e1, p0e2, p0e3, p0e4, p0e5, p0e6, p0e7, p0e8, p0e9, p0e10, p0e11, p0e12, p0e13, p0e14, p0e15, p0e16, p0e17, p0e18, p0e19, p0e20, p0e21, p0e22, p0e23, p0e24, p0e25, p0e26, p0e27, p0e28, p0e29, p0e30, p0e31, p0e32, p0e33, p0e34, p0e35, p0e36, p0e37, p0e38, p0e39, p0e40, p0e41, p0e42, p0e43, p0e44, p0e45, p0e46, p0e47, p0e48, p0e49, p0e50, p0e51, p0e52, p0e53, p0e54, d_c, d_v, d_ap, d_sli, d_slnil, d_bv, d_bc, d_mul, d_add, d_sub, d_wrap, d_tdiv, d_mx, hE, fnsf0, fnsf1, fnsf2, fnsf3, fnsf4, fnsf5, fnsf6, fnsf7, fnsf8, fnsf9] at hf
             omega)
          | (have r1 := pRate_ok (cw := E.i 1 * 2) (sst := E.i 14 / 2) (by omega)
             simp only [p0e0, p0e1, p0e2, p0e3, p0e4, p0e5, p0e6, p0e7, p0e8, p0e9, p0e10, p0e11, p0e12, p0e13, p0e14, p0e15, p0e16, p0e17, p0e18, p0e19, p0e20, p0e21, p0e22, p0e23, p0e24, p0e25, p0e26, p0e27, p0e28, p0e29, p0e30, p0e31, p0e32, p0e33, p0e34, p0e35, p0e36, p0e37, p0e38, p0e39, p0e40, p0e41, p0e42, p0e43, p0e44, p0e45, p0e46, p0e47, p0e48, p0e49, p0e50, p0e51, p0e52, p0e53, p0e54, d_c, d_v, d_ap, d_sli, d_slnil, d_bv, d_bc, d_mul, d_add, d_sub, d_wrap, d_tdiv, d_mx, hE, fnsf0, fnsf1, fnsf2, fnsf3, fnsf4, fnsf5, fnsf6, fnsf7, fnsf8, fnsf9, hhalf] at hf
             omega)
      · -- p0x16
        intro hf
        skip
        simp only [facts_cons, facts_nil, lt_t, lt_f, le_t, le_f, eq_t, eq_f, and_true, d_c, d_v, d_bv] at hf
        have hs := hstep (by omega)
        obtain ⟨hs1, hs2⟩ := hs
        change (_ ∧ _) ∨ (_ ∧ E.i 14 ≤ 190000 ∧ E.i 13 = -1 ∧ E.i 15 = 4611686018427387903) ∨ (_ ∧ _) ∨ _ at hs2
        first
          | omega
          | (have r1 := pRate_ok (cw := E.i 14) (sst := E.i 15) k3
             have r2 := pRate_ok (cw := ackCw (E.i 14) (p0e5.den E) (E.i 1)) (sst := E.i 15) (ackCw_ok (by omega) (by omega))
             simp only [p0e0, p0e1, p0e2, p0e3, p0e4, p0e5, p0e6, p0e7, p0e8, p0e9, p0e10, p0e11, p0e12, p0e13, p0e14, p0e15, p0e16, p0e17, p0e18, p0e19, p0e20, p0e21, p0e22, p0e23, p0e24, p0e25, p0e26, p0e27, p0e28, p0e29, p0e30, p0e31, p0e32, p0e33, p0e34, p0e35, p0e36, p0e37, p0e38, p0e39, p0e40, p0e41, p0e42, p0e43, p0e44, p0e45, p0e46, p0e47, p0e48, p0e49, p0e50, p0e51, p0e52, p0e53, p0e54, d_c, d_v, d_ap, d_sli, d_slnil, d_bv, d_bc, d_mul, d_add, d_sub, d_wrap, d_tdiv, d_mx, hE, fnsf0, fnsf1, fnsf2, fnsf3, fnsf4, fnsf5, fnsf6, fnsf7, fnsf8, fnsf9] at hf r2
             omega)
          | (have r1 := pRate_ok (cw := E.i 14) (sst := E.i 15) k3
             simp only [p0e0, p0e1, p0e2, p0e3, p0e4, p0e5, p0e6, p0e7, p0e8, p0e9, p0e10, p0e11, p0e12, p0e13, p0e14, p0e15, p0e16, p0e17, p0e18, p0e19, p0e20, p0e21, p0e22, p0e23, p0e24, p0e25, p0e26, p0e27, p0e28, p0e29, p0e30, p0e31, p0e32, p0e33, p0e34, p0e35, p0e36, p0e37, p0e38, p0e39, p0e40, p0e41, p0e42, p0e43, p0e44, p0e45, p0e46, p0e47, p0e48, p0e49, p0e50, p0e51, p0e52, p0e53, p0e54, d_c, d_v, d_ap, d_sli, d_slnil, d_bv, d_bc, d_mul, d_add, d_sub, d_wrap, d_tdiv, d_mx, hE, fnsf0, fnsf1, fnsf2, fnsf3, fnsf4, fnsf5, fnsf6, fnsf7, fnsf8, fnsf9] at hf
             omega)
          | (have r0 := winR_ok (cw := E.i 14) (sz := E.i 1) k3 (by omega)
             have r1 := pRate_ok (cw := winR (E.i 14) (E.i 1)) (sst := winR (E.i 14) (E.i 1)) (by omega)
             simp only [p0e0, p0e1, p0e2, p0e3, p0e4, p0e5, p0e6, p0e7, p0e8, p0e9, p0e10, p0e11, p0e12, p0e13, p0e14, p0e15, p0e16, p0e17, p0e18, p0e19, p0e20, p0e21, p0e22, p0e23, p0e24, p0e25, p0e26, p0e27, p0e28, p0e29, p0e30, p0e31, p0e32, p0e33, p0e34, p0e35, p0e36, p0e37, p0e38, p0e39, p0e40, p0e41, p0e42, p0e43, p0e44, p0e45, p0e46, p0e47, p0e48, p0e49, p0e50, p0e51, p0e52, p0e53, p0e54, d_c, d_v, d_ap, d_sli, d_slnil, d_bv, d_bc, d_mul, d_add, d_sub, d_wrap, d_tdiv, d_mx, hE, fnsf0, fnsf1, fnsf2, fnsf3, fnsf4, fnsf5, fnsf6, fnsf7, fnsf8, fnsf9] at hf
             omega)
          | (have r0 := winC_ok (cw := E.i 14) (sz := E.i 1) k3 (by omega)
             have r1 := pRate_ok (cw := winC (E.i 14) (E.i 1)) (sst := winC (E.i 14) (E.i 1)) (by omega)
             simp only [p0e0, p0e1, p0e2, p0e3, p0e4, p0e5, p0e6, p0e7, p0e8, p0e9, p0e10, p0e11, p0e12, p0e13, p0e14, p0e15, p0e16, p0e17, p0e18, p0e19, p0e20, p0e21, p0e22, p0e23, p0e24, p0e25, p0e26, p0e27, p0e28, p0e29, p0e30, p0e31, p0e32, p0e33, p0e34, p0e35, p0e36, p0e37, p0e38, p0e39, p0e40, p0e41, p0e42, p0e43, p0e44, p0e45, p0e46, p0e47, p0e48, p0e49, p0e50, p0e51, p0e52, p0e53, p0e54, d_c, d_v, d_ap, d_sli, d_slnil, d_bv, d_bc, d_mul, d_add, d_sub, d_wrap, d_tdiv, d_mx, hE, fnsf0, fnsf1, fnsf2, fnsf3, fnsf4, fnsf5, fnsf6, fnsf7, fnsf8, fnsf9] at hf
             omega)
          | (have r1 := pRate_ok (cw := E.i 1 * 2) (sst := E.i 14 / 2) (by omega)
             simp only [p0e0, p0e1, p0e2, p0e3, p0e4, p0e5, p0e6, p0e7, p0e8, p0e9, p0e10, p0e11, p0e12, p0e13, p0e14, p0e15, p0e16, p0e17, p0e18, p0e19, p0e20, p0e21, p0e22, p0e23, p0e24, p0e25, p0e26, p0e27, p0e28, p0e29, p0e30, p0e31, p0e32, p0e33, p0e34, p0e35, p0e36, p0e37, p0e38, p0e39, p0e40, p0e41, p0e42, p0e43, p0e44, p0e45, p0e46, p0e47, p0e48, p0e49, p0e50, p0e51, p0e52, p0e53, p0e54, d_c, d_v, d_ap, d_sli, d_slnil, d_bv, d_bc, d_mul, d_add, d_sub, d_wrap, d_tdiv, d_mx, hE, fnsf0, fnsf1, fnsf2, fnsf3, fnsf4, fnsf5, fnsf6, fnsf7, fnsf8, fnsf9, hhalf] at hf
             omega)
      · -- p0x17
        intro hf
        refine ⟨⟨_, rfl, .inr ⟨rfl, rfl⟩⟩, fun o => ?_⟩
        have hK : p0e1.den E = 2 := by
          have := hf ((.eq p0e1 (.c 2)), true) (by simp)
          simpa only [eq_t, d_c] using this
        have hlt : E.i 3 < E.i 2 := by
          have := hf ((.lt (.v 3) (.v 2)), true) (by simp)
          simpa only [lt_t, d_v] using this
        have hcw2 : (SE.den E (.v 14)) = E.i 14 := by simp only [p0e0, p0e1, p0e2, p0e3, p0e4, p0e5, p0e6, p0e7, p0e8, p0e9, p0e10, p0e11, p0e12, p0e13, p0e14, p0e15, p0e16, p0e17, p0e18, p0e19, p0e20, p0e21, p0e22, p0e23, p0e24, p0e25, p0e26, p0e27, p0e28, p0e29, p0e30, p0e31, p0e32, p0e33, p0e34, p0e35, p0e36, p0e37, p0e38, p0e39, p0e40, p0e41, p0e42, p0e43, p0e44, p0e45, p0e46, p0e47, p0e48, p0e49, p0e50, p0e51, p0e52, p0e53, p0e54, d_c, d_v, d_ap, d_sli, d_slnil, d_bv, d_bc, d_mul, d_add, d_sub, d_wrap, d_tdiv, d_mx, hE, fnsf0, fnsf1, fnsf2, fnsf3, fnsf4, fnsf5, fnsf6, fnsf7, fnsf8, fnsf9]
        have hsst2 : (SE.den E (.v 15)) = E.i 15 := by simp only [p0e0, p0e1, p0e2, p0e3, p0e4, p0e5, p0e6, p0e7, p0e8, p0e9, p0e10, p0e11, p0e12, p0e13, p0e14, p0e15, p0e16, p0e17, p0e18, p0e19, p0e20, p0e21, p0e22, p0e23, p0e24, p0e25, p0e26, p0e27, p0e28, p0e29, p0e30, p0e31, p0e32, p0e33, p0e34, p0e35, p0e36, p0e37, p0e38, p0e39, p0e40, p0e41, p0e42, p0e43, p0e44, p0e45, p0e46, p0e47, p0e48, p0e49, p0e50, p0e51, p0e52, p0e53, p0e54, d_c, d_v, d_ap, d_sli, d_slnil, d_bv, d_bc, d_mul, d_add, d_sub, d_wrap, d_tdiv, d_mx, hE, fnsf0, fnsf1, fnsf2, fnsf3, fnsf4, fnsf5, fnsf6, fnsf7, fnsf8, fnsf9]
        have hcell0 : (SE.den E (.v 14)) = E.i 14 := by simp only [p0e0, p0e1, p0e2, p0e3, p0e4, p0e5, p0e6, p0e7, p0e8, p0e9, p0e10, p0e11, p0e12, p0e13, p0e14, p0e15, p0e16, p0e17, p0e18, p0e19, p0e20, p0e21, p0e22, p0e23, p0e24, p0e25, p0e26, p0e27, p0e28, p0e29, p0e30, p0e31, p0e32, p0e33, p0e34, p0e35, p0e36, p0e37, p0e38, p0e39, p0e40, p0e41, p0e42, p0e43, p0e44, p0e45, p0e46, p0e47, p0e48, p0e49, p0e50, p0e51, p0e52, p0e53, p0e54, d_c, d_v, d_ap, d_sli, d_slnil, d_bv, d_bc, d_mul, d_add, d_sub, d_wrap, d_tdiv, d_mx, hE, fnsf0, fnsf1, fnsf2, fnsf3, fnsf4, fnsf5, fnsf6, fnsf7, fnsf8, fnsf9]
        have hcell1 : (SE.den E (.v 15)) = E.i 15 := by simp only [p0e0, p0e1, p0e2, p0e3, p0e4, p0e5, p0e6, p0e7, p0e8, p0e9, p0e10, p0e11, p0e12, p0e13, p0e14, p0e15, p0e16, p0e17, p0e18, p0e19, p0e20, p0e21, p0e22, p0e23, p0e24, p0e25, p0e26, p0e27, p0e28, p0e29, p0e30, p0e31, p0e32, p0e33, p0e34, p0e35, p0e36, p0e37, p0e38, p0e39, p0e40, p0e41, p0e42, p0e43, p0e44, p0e45, p0e46, p0e47, p0e48, p0e49, p0e50, p0e51, p0e52, p0e53, p0e54, d_c, d_v, d_ap, d_sli, d_slnil, d_bv, d_bc, d_mul, d_add, d_sub, d_wrap, d_tdiv, d_mx, hE, fnsf0, fnsf1, fnsf2, fnsf3, fnsf4, fnsf5, fnsf6, fnsf7, fnsf8, fnsf9]
        have hcell4 : p0e30.den E = pBudget (p0e3.den E) (pRate (E.i 14) (E.i 15)) (E.i 5) (E.i 6) := by simp only [p0e0, p0e1, p0e2, p0e3, p0e4, p0e5, p0e6, p0e7, p0e8, p0e9, p0e10, p0e11, p0e12, p0e13, p0e14, p0e15, p0e16, p0e17, p0e18, p0e19, p0e20, p0e21, p0e22, p0e23, p0e24, p0e25, p0e26, p0e27, p0e28, p0e29, p0e30, p0e31, p0e32, p0e33, p0e34, p0e35, p0e36, p0e37, p0e38, p0e39, p0e40, p0e41, p0e42, p0e43, p0e44, p0e45, p0e46, p0e47, p0e48, p0e49, p0e50, p0e51, p0e52, p0e53, p0e54, d_c, d_v, d_ap, d_sli, d_slnil, d_bv, d_bc, d_mul, d_add, d_sub, d_wrap, d_tdiv, d_mx, hE, fnsf0, fnsf1, fnsf2, fnsf3, fnsf4, fnsf5, fnsf6, fnsf7, fnsf8, fnsf9]
        have hcell5 : p0e31.den E = pUntil (pRate (E.i 14) (E.i 15)) (E.i 5) (E.i 6) := by simp only [p0e0, p0e1, p0e2, p0e3, p0e4, p0e5, p0e6, p0e7, p0e8, p0e9, p0e10, p0e11, p0e12, p0e13, p0e14, p0e15, p0e16, p0e17, p0e18, p0e19, p0e20, p0e21, p0e22, p0e23, p0e24, p0e25, p0e26, p0e27, p0e28, p0e29, p0e30, p0e31, p0e32, p0e33, p0e34, p0e35, p0e36, p0e37, p0e38, p0e39, p0e40, p0e41, p0e42, p0e43, p0e44, p0e45, p0e46, p0e47, p0e48, p0e49, p0e50, p0e51, p0e52, p0e53, p0e54, d_c, d_v, d_ap, d_sli, d_slnil, d_bv, d_bc, d_mul, d_add, d_sub, d_wrap, d_tdiv, d_mx, hE, fnsf0, fnsf1, fnsf2, fnsf3, fnsf4, fnsf5, fnsf6, fnsf7, fnsf8, fnsf9]
        refine ⟨⟨i + 1, fin7 hI (by omega) (hk0.trans hK) hk1 hk2 hk3 hk4 rfl rfl rfl rfl rfl (s' := ⟨E.i 12, E.i 11, E.i 13, E.i 14, E.i 15, E.i 5, E.i 6⟩) (by rw [cStep_2a (by show p0e9.den E ≤ E.i 13; have := hf ((.le p0e9 (.v 13)), true) (by simp); simpa only [le_t, d_v] using this)]; rfl) (CS.ext rfl rfl rfl hcw2 hsst2 rfl rfl) (e := p0e0) (l := (.i (.v 14) (.b (.lt (.v 14) (.v 15)) (.b (.le (.v 12) (.v 13)) (.b (.lt p0e5 (.v 14)) (.b (.le (.v 1) p0e30) (.i p0e31 .nil))))))) he0 rfl ?_⟩, fun b hb => ?_⟩
        · intro c hc
          match c, hc with
          | 0, _ => exact hcell0
          | 1, _ =>
            show b2i (decide (SE.den E (.v 14) < SE.den E (.v 15))) = b2i (decide (E.i 14 < E.i 15))
            first | rw [hcell0, hcell1] | rw [hcell0]
          | 2, _ =>
            exact recT (by show E.i 12 ≠ -1; have := hf ((.eq (.v 12) (.c (-1))), false) (by simp); simpa only [eq_f, d_v, d_c] using this)
          | 3, _ =>
            show b2i (decide (p0e5.den E < SE.den E (.v 14))) = b2i (decide (p0e5.den E < E.i 14))
            rw [hcell0]
          | 4, _ =>
            show b2i (decide (E.i 1 ≤ p0e30.den E)) = b2i (decide (E.i 1 ≤ pBudget (p0e3.den E) (pRate (E.i 14) (E.i 15)) (E.i 5) (E.i 6)))
            rw [hcell4]
          | 5, _ => exact hcell5
        · obtain rfl := Option.some.inj hb
          show (E0.i 2 - (E.i 3 + 1)).toNat < _
          omega
      · -- p0x18
        intro hf
        skip
        simp only [facts_cons, facts_nil, lt_t, lt_f, le_t, le_f, eq_t, eq_f, and_true, d_c, d_v, d_bv] at hf
        have hs := hstep (by omega)
        obtain ⟨hs1, hs2⟩ := hs
        change (_ ∧ _) ∨ (_ ∧ E.i 14 ≤ 190000 ∧ E.i 13 = -1 ∧ E.i 15 = 4611686018427387903) ∨ (_ ∧ _) ∨ _ at hs2
        first
          | omega
          | (have r1 := pRate_ok (cw := E.i 14) (sst := E.i 15) k3
             have r2 := pRate_ok (cw := ackCw (E.i 14) (p0e5.den E) (E.i 1)) (sst := E.i 15) (ackCw_ok (by omega) (by omega))
             simp only [p0e0, p0e1, p0e2, p0e3, p0e4, p0e5, p0e6, p0e7, p0e8, p0e9, p0e10, p0e11, p0e12, p0e13, p0e14, p0e15, p0e16, p0e17, p0e18, p0e19, p0e20, p0e21, p0e22, p0e23, p0e24, p0e25, p0e26, p0e27, p0e28, p0e29, p0e30, p0e31, p0e32, p0e33, p0e34, p0e35, p0e36, p0e37, p0e38, p0e39, p0e40, p0e41, p0e42, p0e43, p0e44, p0e45, p0e46, p0e47, p0e48, p0e49, p0e50, p0e51, p0e52, p0e53, p0e54, d_c, d_v, d_ap, d_sli, d_slnil, d_bv, d_bc, d_mul, d_add, d_sub, d_wrap, d_tdiv, d_mx, hE, fnsf0, fnsf1, fnsf2, fnsf3, fnsf4, fnsf5, fnsf6, fnsf7, fnsf8, fnsf9] at hf r2
             omega)
          | (have r1 := pRate_ok (cw := E.i 14) (sst := E.i 15) k3
             simp only [p0e0, p0e1, p0e2, p0e3, p0e4, p0e5, p0e6, p0e7, p0e8, p0e9, p0e10, p0e11, p0e12, p0e13, p0e14, p0e15, p0e16, p0e17, p0e18, p0e19, p0e20, p0e21, p0e22, p0e23, p0e24, p0e25, p0e26, p0e27, p0e28, p0e29, p0e30, p0e31, p0e32, p0e33, p0e34, p0e35, p0e36, p0e37, p0e38, p0e39, p0e40, p0e41, p0e42, p0e43, p0e44, p0e45, p0e46, p0e47, p0e48, p0e49, p0e50, p0e51, p0e52, p0e53, p0e54, d_c, d_v, d_ap, d_sli, d_slnil, d_bv, d_bc, d_mul, d_add, d_sub, d_wrap, d_tdiv, d_mx, hE, fnsf0, fnsf1, fnsf2, fnsf3, fnsf4, fnsf5, fnsf6, fnsf7, fnsf8, fnsf9] at hf
             omega)
          | (have r0 := winR_ok (cw := E.i 14) (sz := E.i 1) k3 (by omega)
             have r1 := pRate_ok (cw := winR (E.i 14) (E.i 1)) (sst := winR (E.i 14) (E.i 1)) (by omega)
             simp only [p0e0, p0e1, p0e2, p0e3, p0e4, p0e5, p0e6, p0e7, p0e8, p0e9, p0e10, p0e11, p0e12, p0e13, p0e14, p0e15, p0e16, p0e17, p0e18, p0e19, p0e20, p0e21, p0e22, p0e23, p0e24, p0e25, p0e26, p0e27, p0e28, p0e29, p0e30, p0e31, p0e32, p0e33, p0e34, p0e35, p0e36, p0e37, p0e38, p0e39, p0e40, p0e41, p0e42, p0e43, p0e44, p0e45, p0e46, p0e47, p0e48, p0e49, p0e50, p0e51, p0e52, p0e53, p0e54, d_c, d_v, d_ap, d_sli, d_slnil, d_bv, d_bc, d_mul, d_add, d_sub, d_wrap, d_tdiv, d_mx, hE, fnsf0, fnsf1, fnsf2, fnsf3, fnsf4, fnsf5, fnsf6, fnsf7, fnsf8, fnsf9] at hf
             omega)
          | (have r0 := winC_ok (cw := E.i 14) (sz := E.i 1) k3 (by omega)
             have r1 := pRate_ok (cw := winC (E.i 14) (E.i 1)) (sst := winC (E.i 14) (E.i 1)) (by omega)
             simp only [p0e0, p0e1, p0e2, p0e3, p0e4, p0e5, p0e6, p0e7, p0e8, p0e9, p0e10, p0e11, p0e12, p0e13, p0e14, p0e15, p0e16, p0e17, p0e18, p0e19, p0e20, p0e21, p0e22, p0e23, p0e24, p0e25, p0e26, p0e27, p0e28, p0e29, p0e30, p0e31, p0e32, p0e33, p0e34, p0e35, p0e36, p0e37, p0e38, p0e39, p0e40, p0e41, p0e42, p0e43, p0e44, p0e45, p0e46, p0e47, p0e48, p0e49, p0e50, p0e51, p0e52, p0e53, p0e54, d_c, d_v, d_ap, d_sli, d_slnil, d_bv, d_bc, d_mul, d_add, d_sub, d_wrap, d_tdiv, d_mx, hE, fnsf0, fnsf1, fnsf2, fnsf3, fnsf4, fnsf5, fnsf6, fnsf7, fnsf8, fnsf9] at hf
             omega)
          | (have r1 := pRate_ok (cw := E.i 1 * 2) (sst := E.i 14 / 2) (by omega)
             simp only [p0e0, p0e1, p0e2, p0e3, p0e4, p0e5, p0e6, p0e7, p0e8, p0e9, p0e10, p0e11, p0e12, p0e13, p0e14, p0e15, p0e16, p0e17, p0e18, p0e19, p0e20, p0e21, p0e22, p0e23, p0e24, p0e25, p0e26, p0e27, p0e28, p0e29, p0e30, p0e31, p0e32, p0e33, p0e34, p0e35, p0e36, p0e37, p0e38, p0e39, p0e40, p0e41, p0e42, p0e43, p0e44, p0e45, p0e46, p0e47, p0e48, p0e49, p0e50, p0e51, p0e52, p0e53, p0e54, d_c, d_v, d_ap, d_sli, d_slnil, d_bv, d_bc, d_mul, d_add, d_sub, d_wrap, d_tdiv, d_mx, hE, fnsf0, fnsf1, fnsf2, fnsf3, fnsf4, fnsf5, fnsf6, fnsf7, fnsf8, fnsf9, hhalf] at hf
             omega)
      · -- p0x19
        intro hf
        skip
        simp only [facts_cons, facts_nil, lt_t, lt_f, le_t, le_f, eq_t, eq_f, and_true, d_c, d_v, d_bv] at hf
        have hs := hstep (by omega)
        obtain ⟨hs1, hs2⟩ := hs
        change (_ ∧ _) ∨ (_ ∧ E.i 14 ≤ 190000 ∧ E.i 13 = -1 ∧ E.i 15 = 4611686018427387903) ∨ (_ ∧ _) ∨ _ at hs2
        first
          | omega
          | (have r1 := pRate_ok (cw := E.i 14) (sst := E.i 15) k3
             have r2 := pRate_ok (cw := ackCw (E.i 14) (p0e5.den E) (E.i 1)) (sst := E.i 15) (ackCw_ok (by omega) (by omega))
             simp only [p0e0, p0e1, p0e2, p0e3, p0e4, p0e5, p0e6, p0e7, p0e8, p0e9, p0e10, p0e11, p0e12, p0e13, p0e14, p0e15, p0e16, p0e17, p0e18, p0e19, p0e20, p0e21, p0e22, p0e23, p0e24, p0e25, p0e26, p0e27, p0e28, p0e29, p0e30, p0e31, p0e32, p0e33, p0e34, p0e35, p0e36, p0e37, p0e38, p0e39, p0e40, p0e41, p0e42, p0e43, p0e44, p0e45, p0e46, p0e47, p0e48, p0e49, p0e50, p0e51, p0e52, p0e53, p0e54, d_c, d_v, d_ap, d_sli, d_slnil, d_bv, d_bc, d_mul, d_add, d_sub, d_wrap, d_tdiv, d_mx, hE, fnsf0, fnsf1, fnsf2, fnsf3, fnsf4, fnsf5, fnsf6, fnsf7, fnsf8, fnsf9] at hf r2
             omega)
          | (have r1 := pRate_ok (cw := E.i 14) (sst := E.i 15) k3
             simp only [p0e0, p0e1, p0e2, p0e3, p0e4, p0e5, p0e6, p0e7, p0e8, p0e9, p0e10, p0e11, p0e12, p0e13, p0e14, p0e15, p0e16, p0e17, p0e18, p0e19, p0e20, p0e21, p0e22, p0e23, p0e24, p0e25, p0e26, p0e27, p0e28, p0e29, p0e30, p0e31, p0e32, p0e33, p0e34, p0e35, p0e36, p0e37, p0e38, p0e39, p0e40, p0e41, p0e42, p0e43, p0e44, p0e45, p0e46, p0e47, p0e48, p0e49, p0e50, p0e51, p0e52, p0e53, p0e54, d_c, d_v, d_ap, d_sli, d_slnil, d_bv, d_bc, d_mul, d_add, d_sub, d_wrap, d_tdiv, d_mx, hE, fnsf0, fnsf1, fnsf2, fnsf3, fnsf4, fnsf5, fnsf6, fnsf7, fnsf8, fnsf9] at hf
             omega)
          | (have r0 := winR_ok (cw := E.i 14) (sz := E.i 1) k3 (by omega)
             have r1 := pRate_ok (cw := winR (E.i 14) (E.i 1)) (sst := winR (E.i 14) (E.i 1)) (by omega)
             simp only [p0e0, p0e1, p0e2, p0e3, p0e4, p0e5, p0e6, p0e7, p0e8, p0e9, p0e10, p0e11, p0e12, p0e13, p0e14, p0e15, p0e16, p0e17, p0e18, p0e19, p0e20, p0e21, p0e22, p0e23, p0e24, p0e25, p0e26, p0e27, p0e28, p0e29, p0e30, p0e31, p0e32, p0e33, p0e34, p0e35, p0e36, p0e37, p0e38, p0e39, p0e40, p0e41, p0e42, p0e43, p0e44, p0e45, p0e46, p0e47, p0e48, p0e49, p0e50, p0e51, p0e52, p0e53, p0e54, d_c, d_v, d_ap, d_sli, d_slnil, d_bv, d_bc, d_mul, d_add, d_sub, d_wrap, d_tdiv, d_mx, hE, fnsf0, fnsf1, fnsf2, fnsf3, fnsf4, fnsf5, fnsf6, fnsf7, fnsf8, fnsf9] at hf
             omega)
          | (have r0 := winC_ok (cw := E.i 14) (sz := E.i 1) k3 (by omega)
             have r1 := pRate_ok (cw := winC (E.i 14) (E.i 1)) (sst := winC (E.i 14) (E.i 1)) (by omega)
             simp only [p0e0, p0e1, p0e2, p0e3, p0e4, p0e5, p0e6, p0e7, p0e8, p0e9, p0e10, p0e11, p0e12, p0e13, p0e14, p0e15, p0e16, p0e17, p0e18, p0e19, p0e20, p0e21, p0e22, p0e23, p0e24, p0e25, p0e26, p0e27, p0e28, p0e29, p0e30, p0e31, p0e32, p0e33, p0e34, p0e35, p0e36, p0e37, p0e38, p0e39, p0e40, p0e41, p0e42, p0e43, p0e44, p0e45, p0e46, p0e47, p0e48, p0e49, p0e50, p0e51, p0e52, p0e53, p0e54, d_c, d_v, d_ap, d_sli, d_slnil, d_bv, d_bc, d_mul, d_add, d_sub, d_wrap, d_tdiv, d_mx, hE, fnsf0, fnsf1, fnsf2, fnsf3, fnsf4, fnsf5, fnsf6, fnsf7, fnsf8, fnsf9] at hf
             omega)
          | (have r1 := pRate_ok (cw := E.i 1 * 2) (sst := E.i 14 / 2) (by omega)
             simp only [p0e0, p0e1, p0e2, p0e3, p0e4, p0e5, p0e6, p0e7, p0e8, p0e9, p0e10, p0e11, p0e12, p0e13, p0e14, p0e15, p0e16, p0e17, p0e18, p0e19, p0e20, p0e21, p0e22, p0e23, p0e24, p0e25, p0e26, p0e27, p0e28, p0e29, p0e30, p0e31, p0e32, p0e33, p0e34, p0e35, p0e36, p0e37, p0e38, p0e39, p0e40, p0e41, p0e42, p0e43, p0e44, p0e45, p0e46, p0e47, p0e48, p0e49, p0e50, p0e51, p0e52, p0e53, p0e54, d_c, d_v, d_ap, d_sli, d_slnil, d_bv, d_bc, d_mul, d_add, d_sub, d_wrap, d_tdiv, d_mx, hE, fnsf0, fnsf1, fnsf2, fnsf3, fnsf4, fnsf5, fnsf6, fnsf7, fnsf8, fnsf9, hhalf] at hf
             omega)
      · -- winR (E.i 14) (E.i 1)
        intro hf
        refine ⟨⟨_, rfl, .inr ⟨rfl, rfl⟩⟩, fun o => ?_⟩
        have hK : p0e1.den E = 2 := by
          have := hf ((.eq p0e1 (.c 2)), true) (by simp)
          simpa only [eq_t, d_c] using this
        have hlt : E.i 3 < E.i 2 := by
          have := hf ((.lt (.v 3) (.v 2)), true) (by simp)
          simpa only [lt_t, d_v] using this
        have hcw2 : (SE.den E (p0e34)) = winR (E.i 14) (E.i 1) := by simp only [p0e0, p0e1, p0e2, p0e3, p0e4, p0e5, p0e6, p0e7, p0e8, p0e9, p0e10, p0e11, p0e12, p0e13, p0e14, p0e15, p0e16, p0e17, p0e18, p0e19, p0e20, p0e21, p0e22, p0e23, p0e24, p0e25, p0e26, p0e27, p0e28, p0e29, p0e30, p0e31, p0e32, p0e33, p0e34, p0e35, p0e36, p0e37, p0e38, p0e39, p0e40, p0e41, p0e42, p0e43, p0e44, p0e45, p0e46, p0e47, p0e48, p0e49, p0e50, p0e51, p0e52, p0e53, p0e54, d_c, d_v, d_ap, d_sli, d_slnil, d_bv, d_bc, d_mul, d_add, d_sub, d_wrap, d_tdiv, d_mx, hE, fnsf0, fnsf1, fnsf2, fnsf3, fnsf4, fnsf5, fnsf6, fnsf7, fnsf8, fnsf9]
        have hsst2 : (SE.den E (p0e34)) = winR (E.i 14) (E.i 1) := by simp only [p0e0, p0e1, p0e2, p0e3, p0e4, p0e5, p0e6, p0e7, p0e8, p0e9, p0e10, p0e11, p0e12, p0e13, p0e14, p0e15, p0e16, p0e17, p0e18, p0e19, p0e20, p0e21, p0e22, p0e23, p0e24, p0e25, p0e26, p0e27, p0e28, p0e29, p0e30, p0e31, p0e32, p0e33, p0e34, p0e35, p0e36, p0e37, p0e38, p0e39, p0e40, p0e41, p0e42, p0e43, p0e44, p0e45, p0e46, p0e47, p0e48, p0e49, p0e50, p0e51, p0e52, p0e53, p0e54, d_c, d_v, d_ap, d_sli, d_slnil, d_bv, d_bc, d_mul, d_add, d_sub, d_wrap, d_tdiv, d_mx, hE, fnsf0, fnsf1, fnsf2, fnsf3, fnsf4, fnsf5, fnsf6, fnsf7, fnsf8, fnsf9]
        have hren : winOf (b2i (E.b 0)) (E.i 1) (E.i 14) = winR (E.i 14) (E.i 1) := by
          have hb0 : E.b 0 = true := hf ((.v 0), true) (by simp)
          rw [hb0]; rfl
        have hcell0 : (SE.den E (p0e34)) = winR (E.i 14) (E.i 1) := by simp only [p0e0, p0e1, p0e2, p0e3, p0e4, p0e5, p0e6, p0e7, p0e8, p0e9, p0e10, p0e11, p0e12, p0e13, p0e14, p0e15, p0e16, p0e17, p0e18, p0e19, p0e20, p0e21, p0e22, p0e23, p0e24, p0e25, p0e26, p0e27, p0e28, p0e29, p0e30, p0e31, p0e32, p0e33, p0e34, p0e35, p0e36, p0e37, p0e38, p0e39, p0e40, p0e41, p0e42, p0e43, p0e44, p0e45, p0e46, p0e47, p0e48, p0e49, p0e50, p0e51, p0e52, p0e53, p0e54, d_c, d_v, d_ap, d_sli, d_slnil, d_bv, d_bc, d_mul, d_add, d_sub, d_wrap, d_tdiv, d_mx, hE, fnsf0, fnsf1, fnsf2, fnsf3, fnsf4, fnsf5, fnsf6, fnsf7, fnsf8, fnsf9]
        have hcell1 : (SE.den E (p0e34)) = winR (E.i 14) (E.i 1) := by simp only [p0e0, p0e1, p0e2, p0e3, p0e4, p0e5, p0e6, p0e7, p0e8, p0e9, p0e10, p0e11, p0e12, p0e13, p0e14, p0e15, p0e16, p0e17, p0e18, p0e19, p0e20, p0e21, p0e22, p0e23, p0e24, p0e25, p0e26, p0e27, p0e28, p0e29, p0e30, p0e31, p0e32, p0e33, p0e34, p0e35, p0e36, p0e37, p0e38, p0e39, p0e40, p0e41, p0e42, p0e43, p0e44, p0e45, p0e46, p0e47, p0e48, p0e49, p0e50, p0e51, p0e52, p0e53, p0e54, d_c, d_v, d_ap, d_sli, d_slnil, d_bv, d_bc, d_mul, d_add, d_sub, d_wrap, d_tdiv, d_mx, hE, fnsf0, fnsf1, fnsf2, fnsf3, fnsf4, fnsf5, fnsf6, fnsf7, fnsf8, fnsf9]
        have hcell4 : p0e36.den E = pBudget (p0e3.den E) (pRate (winR (E.i 14) (E.i 1)) (winR (E.i 14) (E.i 1))) (E.i 5) (E.i 6) := by simp only [p0e0, p0e1, p0e2, p0e3, p0e4, p0e5, p0e6, p0e7, p0e8, p0e9, p0e10, p0e11, p0e12, p0e13, p0e14, p0e15, p0e16, p0e17, p0e18, p0e19, p0e20, p0e21, p0e22, p0e23, p0e24, p0e25, p0e26, p0e27, p0e28, p0e29, p0e30, p0e31, p0e32, p0e33, p0e34, p0e35, p0e36, p0e37, p0e38, p0e39, p0e40, p0e41, p0e42, p0e43, p0e44, p0e45, p0e46, p0e47, p0e48, p0e49, p0e50, p0e51, p0e52, p0e53, p0e54, d_c, d_v, d_ap, d_sli, d_slnil, d_bv, d_bc, d_mul, d_add, d_sub, d_wrap, d_tdiv, d_mx, hE, fnsf0, fnsf1, fnsf2, fnsf3, fnsf4, fnsf5, fnsf6, fnsf7, fnsf8, fnsf9]
        have hcell5 : p0e37.den E = pUntil (pRate (winR (E.i 14) (E.i 1)) (winR (E.i 14) (E.i 1))) (E.i 5) (E.i 6) := by simp only [p0e0, p0e1, p0e2, p0e3, p0e4, p0e5, p0e6, p0e7, p0e8, p0e9, p0e10, p0e11, p0e12, p0e13, p0e14, p0e15, p0e16, p0e17, p0e18, p0e19, p0e20, p0e21, p0e22, p0e23, p0e24, p0e25, p0e26, p0e27, p0e28, p0e29, p0e30, p0e31, p0e32, p0e33, p0e34, p0e35, p0e36, p0e37, p0e38, p0e39, p0e40, p0e41, p0e42, p0e43, p0e44, p0e45, p0e46, p0e47, p0e48, p0e49, p0e50, p0e51, p0e52, p0e53, p0e54, d_c, d_v, d_ap, d_sli, d_slnil, d_bv, d_bc, d_mul, d_add, d_sub, d_wrap, d_tdiv, d_mx, hE, fnsf0, fnsf1, fnsf2, fnsf3, fnsf4, fnsf5, fnsf6, fnsf7, fnsf8, fnsf9]
        refine ⟨⟨i + 1, fin7 hI (by omega) (hk0.trans hK) hk1 hk2 hk3 hk4 rfl rfl rfl rfl rfl (s' := ⟨E.i 12, E.i 11, E.i 11, winR (E.i 14) (E.i 1), winR (E.i 14) (E.i 1), E.i 5, E.i 6⟩) (by rw [cStep_2b (by show ¬ p0e9.den E ≤ E.i 13; have := hf ((.le p0e9 (.v 13)), false) (by simp); simp only [le_f, d_v] at this; omega)]; show (⟨E.i 12, E.i 11, E.i 11, winOf (b2i (E.b 0)) (E.i 1) (E.i 14), winOf (b2i (E.b 0)) (E.i 1) (E.i 14), E.i 5, E.i 6⟩ : CS) = _; rw [hren]) (CS.ext rfl rfl rfl hcw2 hsst2 rfl rfl) (e := p0e0) (l := (.i p0e34 (.b (.lt p0e34 p0e34) (.b (.c false) (.b (.lt p0e5 p0e34) (.b (.le (.v 1) p0e36) (.i p0e37 .nil))))))) he0 rfl ?_⟩, fun b hb => ?_⟩
        · intro c hc
          match c, hc with
          | 0, _ => exact hcell0
          | 1, _ =>
            show b2i (decide (SE.den E (p0e34) < SE.den E (p0e34))) = b2i (decide (winR (E.i 14) (E.i 1) < winR (E.i 14) (E.i 1)))
            first | rw [hcell0, hcell1] | rw [hcell0]
          | 2, _ =>
            exact recF (by show E.i 12 = -1; have := hf ((.eq (.v 12) (.c (-1))), true) (by simp); simpa only [eq_t, d_v, d_c] using this)
          | 3, _ =>
            show b2i (decide (p0e5.den E < SE.den E (p0e34))) = b2i (decide (p0e5.den E < winR (E.i 14) (E.i 1)))
            rw [hcell0]
          | 4, _ =>
            show b2i (decide (E.i 1 ≤ p0e36.den E)) = b2i (decide (E.i 1 ≤ pBudget (p0e3.den E) (pRate (winR (E.i 14) (E.i 1)) (winR (E.i 14) (E.i 1))) (E.i 5) (E.i 6)))
            rw [hcell4]
          | 5, _ => exact hcell5
        · obtain rfl := Option.some.inj hb
          show (E0.i 2 - (E.i 3 + 1)).toNat < _
          omega
      · -- p0x21
        intro hf
        skip
        simp only [facts_cons, facts_nil, lt_t, lt_f, le_t, le_f, eq_t, eq_f, and_true, d_c, d_v, d_bv] at hf
        have hs := hstep (by omega)
        obtain ⟨hs1, hs2⟩ := hs
        change (_ ∧ _) ∨ (_ ∧ E.i 14 ≤ 190000 ∧ E.i 13 = -1 ∧ E.i 15 = 4611686018427387903) ∨ (_ ∧ _) ∨ _ at hs2
        first
          | omega
          | (have r1 := pRate_ok (cw := E.i 14) (sst := E.i 15) k3
             have r2 := pRate_ok (cw := ackCw (E.i 14) (p0e5.den E) (E.i 1)) (sst := E.i 15) (ackCw_ok (by omega) (by omega))
             simp only [p0e0, p0e1, p0e2, p0e3, p0e4, p0e5, p0e6, p0e7, p0e8, p0e9, p0e10, p0e11, p0e12, p0e13, p0e14, p0e15, p0e16, p0e17, p0e18, p0e19, p0e20, p0e21, p0e22, p0e23, p0e24, p0e25, p0e26, p0e27, p0e28, p0e29, p0e30, p0e31, p0e32, p0e33, p0e34, p0e35, p0e36, p0e37, p0e38, p0e39, p0e40, p0e41, p0e42, p0e43, p0e44, p0e45, p0e46, p0e47, p0e48, p0e49, p0e50, p0e51, p0e52, p0e53, p0e54, d_c, d_v, d_ap, d_sli, d_slnil, d_bv, d_bc, d_mul, d_add, d_sub, d_wrap, d_tdiv, d_mx, hE, fnsf0, fnsf1, fnsf2, fnsf3, fnsf4, fnsf5, fnsf6, fnsf7, fnsf8, fnsf9] at hf r2
             omega)
          | (have r1 := pRate_ok (cw := E.i 14) (sst := E.i 15) k3
             simp only [p0e0, p0e1, p0e2, p0e3, p0e4, p0e5, p0e6, p0e7, p0e8, p0e9, p0e10, p0e11, p0e12, p0e13, p0e14, p0e15, p0e16, p0e17, p0e18, p0e19, p0e20, p0e21, p0e22, p0e23, p0e24, p0e25, p0e26, p0e27, p0e28, p0e29, p0e30, p0e31, p0e32, p0e33, p0e34, p0e35, p0e36, p0e37, p0e38, p0e39, p0e40, p0e41, p0e42, p0e43, p0e44, p0e45, p0e46, p0e47, p0e48, p0e49, p0e50, p0e51, p0e52, p0e53, p0e54, d_c, d_v, d_ap, d_sli, d_slnil, d_bv, d_bc, d_mul, d_add, d_sub, d_wrap, d_tdiv, d_mx, hE, fnsf0, fnsf1, fnsf2, fnsf3, fnsf4, fnsf5, fnsf6, fnsf7, fnsf8, fnsf9] at hf
             omega)
          | (have r0 := winR_ok (cw := E.i 14) (sz := E.i 1) k3 (by omega)
             have r1 := pRate_ok (cw := winR (E.i 14) (E.i 1)) (sst := winR (E.i 14) (E.i 1)) (by omega)
             simp only [p0e0, p0e1, p0e2, p0e3, p0e4, p0e5, p0e6, p0e7, p0e8, p0e9, p0e10, p0e11, p0e12, p0e13, p0e14, p0e15, p0e16, p0e17, p0e18, p0e19, p0e20, p0e21, p0e22, p0e23, p0e24, p0e25, p0e26, p0e27, p0e28, p0e29, p0e30, p0e31, p0e32, p0e33, p0e34, p0e35, p0e36, p0e37, p0e38, p0e39, p0e40, p0e41, p0e42, p0e43, p0e44, p0e45, p0e46, p0e47, p0e48, p0e49, p0e50, p0e51, p0e52, p0e53, p0e54, d_c, d_v, d_ap, d_sli, d_slnil, d_bv, d_bc, d_mul, d_add, d_sub, d_wrap, d_tdiv, d_mx, hE, fnsf0, fnsf1, fnsf2, fnsf3, fnsf4, fnsf5, fnsf6, fnsf7, fnsf8, fnsf9] at hf
             omega)
          | (have r0 := winC_ok (cw := E.i 14) (sz := E.i 1) k3 (by omega)
             have r1 := pRate_ok (cw := winC (E.i 14) (E.i 1)) (sst := winC (E.i 14) (E.i 1)) (by omega)
             simp only [p0e0, p0e1, p0e2, p0e3, p0e4, p0e5, p0e6, p0e7, p0e8, p0e9, p0e10, p0e11, p0e12, p0e13, p0e14, p0e15, p0e16, p0e17, p0e18, p0e19, p0e20, p0e21, p0e22, p0e23, p0e24, p0e25, p0e26, p0e27, p0e28, p0e29, p0e30, p0e31, p0e32, p0e33, p0e34, p0e35, p0e36, p0e37, p0e38, p0e39, p0e40, p0e41, p0e42, p0e43, p0e44, p0e45, p0e46, p0e47, p0e48, p0e49, p0e50, p0e51, p0e52, p0e53, p0e54, d_c, d_v, d_ap, d_sli, d_slnil, d_bv, d_bc, d_mul, d_add, d_sub, d_wrap, d_tdiv, d_mx, hE, fnsf0, fnsf1, fnsf2, fnsf3, fnsf4, fnsf5, fnsf6, fnsf7, fnsf8, fnsf9] at hf
             omega)
          | (have r1 := pRate_ok (cw := E.i 1 * 2) (sst := E.i 14 / 2) (by omega)
             simp only [p0e0, p0e1, p0e2, p0e3, p0e4, p0e5, p0e6, p0e7, p0e8, p0e9, p0e10, p0e11, p0e12, p0e13, p0e14, p0e15, p0e16, p0e17, p0e18, p0e19, p0e20, p0e21, p0e22, p0e23, p0e24, p0e25, p0e26, p0e27, p0e28, p0e29, p0e30, p0e31, p0e32, p0e33, p0e34, p0e35, p0e36, p0e37, p0e38, p0e39, p0e40, p0e41, p0e42, p0e43, p0e44, p0e45, p0e46, p0e47, p0e48, p0e49, p0e50, p0e51, p0e52, p0e53, p0e54, d_c, d_v, d_ap, d_sli, d_slnil, d_bv, d_bc, d_mul, d_add, d_sub, d_wrap, d_tdiv, d_mx, hE, fnsf0, fnsf1, fnsf2, fnsf3, fnsf4, fnsf5, fnsf6, fnsf7, fnsf8, fnsf9, hhalf] at hf
             omega)
      · -- p0x22
        intro hf
        skip
        simp only [facts_cons, facts_nil, lt_t, lt_f, le_t, le_f, eq_t, eq_f, and_true, d_c, d_v, d_bv] at hf
        have hs := hstep (by omega)
        obtain ⟨hs1, hs2⟩ := hs
        change (_ ∧ _) ∨ (_ ∧ E.i 14 ≤ 190000 ∧ E.i 13 = -1 ∧ E.i 15 = 4611686018427387903) ∨ (_ ∧ _) ∨ _ at hs2
        first
          | omega
          | (have r1 := pRate_ok (cw := E.i 14) (sst := E.i 15) k3
             have r2 := pRate_ok (cw := ackCw (E.i 14) (p0e5.den E) (E.i 1)) (sst := E.i 15) (ackCw_ok (by omega) (by omega))
             simp only [p0e0, p0e1, p0e2, p0e3, p0e4, p0e5, p0e6, p0e7, p0e8, p0e9, p0e10, p0e11, p0e12, p0e13, p0e14, p0e15, p0e16, p0e17, p0e18, p0e19, p0e20, p0e21, p0e22, p0e23, p0e24, p0e25, p0e26, p0e27, p0e28, p0e29, p0e30, p0e31, p0e32, p0e33, p0e34, p0e35, p0e36, p0e37, p0e38, p0e39, p0e40, p0e41, p0e42, p0e43, p0e44, p0e45, p0e46, p0e47, p0e48, p0e49, p0e50, p0e51, p0e52, p0e53, p0e54, d_c, d_v, d_ap, d_sli, d_slnil, d_bv, d_bc, d_mul, d_add, d_sub, d_wrap, d_tdiv, d_mx, hE, fnsf0, fnsf1, fnsf2, fnsf3, fnsf4, fnsf5, fnsf6, fnsf7, fnsf8, fnsf9] at hf r2
             omega)
          | (have r1 := pRate_ok (cw := E.i 14) (sst := E.i 15) k3
             simp only [p0e0, p0e1, p0e2, p0e3, p0e4, p0e5, p0e6, p0e7, p0e8, p0e9, p0e10, p0e11, p0e12, p0e13, p0e14, p0e15, p0e16, p0e17, p0e18, p0e19, p0e20, p0e21, p0e22, p0e23, p0e24, p0e25, p0e26, p0e27, p0e28, p0e29, p0e30, p0e31, p0e32, p0e33, p0e34, p0e35, p0e36, p0e37, p0e38, p0e39, p0e40, p0e41, p0e42, p0e43, p0e44, p0e45, p0e46, p0e47, p0e48, p0e49, p0e50, p0e51, p0e52, p0e53, p0e54, d_c, d_v, d_ap, d_sli, d_slnil, d_bv, d_bc, d_mul, d_add, d_sub, d_wrap, d_tdiv, d_mx, hE, fnsf0, fnsf1, fnsf2, fnsf3, fnsf4, fnsf5, fnsf6, fnsf7, fnsf8, fnsf9] at hf
             omega)
          | (have r0 := winR_ok (cw := E.i 14) (sz := E.i 1) k3 (by omega)
             have r1 := pRate_ok (cw := winR (E.i 14) (E.i 1)) (sst := winR (E.i 14) (E.i 1)) (by omega)
             simp only [p0e0, p0e1, p0e2, p0e3, p0e4, p0e5, p0e6, p0e7, p0e8, p0e9, p0e10, p0e11, p0e12, p0e13, p0e14, p0e15, p0e16, p0e17, p0e18, p0e19, p0e20, p0e21, p0e22, p0e23, p0e24, p0e25, p0e26, p0e27, p0e28, p0e29, p0e30, p0e31, p0e32, p0e33, p0e34, p0e35, p0e36, p0e37, p0e38, p0e39, p0e40, p0e41, p0e42, p0e43, p0e44, p0e45, p0e46, p0e47, p0e48, p0e49, p0e50, p0e51, p0e52, p0e53, p0e54, d_c, d_v, d_ap, d_sli, d_slnil, d_bv, d_bc, d_mul, d_add, d_sub, d_wrap, d_tdiv, d_mx, hE, fnsf0, fnsf1, fnsf2, fnsf3, fnsf4, fnsf5, fnsf6, fnsf7, fnsf8, fnsf9] at hf
             omega)
          | (have r0 := winC_ok (cw := E.i 14) (sz := E.i 1) k3 (by omega)
             have r1 := pRate_ok (cw := winC (E.i 14) (E.i 1)) (sst := winC (E.i 14) (E.i 1)) (by omega)
             simp only [p0e0, p0e1, p0e2, p0e3, p0e4, p0e5, p0e6, p0e7, p0e8, p0e9, p0e10, p0e11, p0e12, p0e13, p0e14, p0e15, p0e16, p0e17, p0e18, p0e19, p0e20, p0e21, p0e22, p0e23, p0e24, p0e25, p0e26, p0e27, p0e28, p0e29, p0e30, p0e31, p0e32, p0e33, p0e34, p0e35, p0e36, p0e37, p0e38, p0e39, p0e40, p0e41, p0e42, p0e43, p0e44, p0e45, p0e46, p0e47, p0e48, p0e49, p0e50, p0e51, p0e52, p0e53, p0e54, d_c, d_v, d_ap, d_sli, d_slnil, d_bv, d_bc, d_mul, d_add, d_sub, d_wrap, d_tdiv, d_mx, hE, fnsf0, fnsf1, fnsf2, fnsf3, fnsf4, fnsf5, fnsf6, fnsf7, fnsf8, fnsf9] at hf
             omega)
          | (have r1 := pRate_ok (cw := E.i 1 * 2) (sst := E.i 14 / 2) (by omega)
             simp only [p0e0, p0e1, p0e2, p0e3, p0e4, p0e5, p0e6, p0e7, p0e8, p0e9, p0e10, p0e11, p0e12, p0e13, p0e14, p0e15, p0e16, p0e17, p0e18, p0e19, p0e20, p0e21, p0e22, p0e23, p0e24, p0e25, p0e26, p0e27, p0e28, p0e29, p0e30, p0e31, p0e32, p0e33, p0e34, p0e35, p0e36, p0e37, p0e38, p0e39, p0e40, p0e41, p0e42, p0e43, p0e44, p0e45, p0e46, p0e47, p0e48, p0e49, p0e50, p0e51, p0e52, p0e53, p0e54, d_c, d_v, d_ap, d_sli, d_slnil, d_bv, d_bc, d_mul, d_add, d_sub, d_wrap, d_tdiv, d_mx, hE, fnsf0, fnsf1, fnsf2, fnsf3, fnsf4, fnsf5, fnsf6, fnsf7, fnsf8, fnsf9, hhalf] at hf
             omega)
      · -- winR (E.i 14) (E.i 1)
        intro hf
        refine ⟨⟨_, rfl, .inr ⟨rfl, rfl⟩⟩, fun o => ?_⟩
        have hK : p0e1.den E = 2 := by
          have := hf ((.eq p0e1 (.c 2)), true) (by simp)
          simpa only [eq_t, d_c] using this
        have hlt : E.i 3 < E.i 2 := by
          have := hf ((.lt (.v 3) (.v 2)), true) (by simp)
          simpa only [lt_t, d_v] using this
        have hcw2 : (SE.den E (p0e34)) = winR (E.i 14) (E.i 1) := by simp only [p0e0, p0e1, p0e2, p0e3, p0e4, p0e5, p0e6, p0e7, p0e8, p0e9, p0e10, p0e11, p0e12, p0e13, p0e14, p0e15, p0e16, p0e17, p0e18, p0e19, p0e20, p0e21, p0e22, p0e23, p0e24, p0e25, p0e26, p0e27, p0e28, p0e29, p0e30, p0e31, p0e32, p0e33, p0e34, p0e35, p0e36, p0e37, p0e38, p0e39, p0e40, p0e41, p0e42, p0e43, p0e44, p0e45, p0e46, p0e47, p0e48, p0e49, p0e50, p0e51, p0e52, p0e53, p0e54, d_c, d_v, d_ap, d_sli, d_slnil, d_bv, d_bc, d_mul, d_add, d_sub, d_wrap, d_tdiv, d_mx, hE, fnsf0, fnsf1, fnsf2, fnsf3, fnsf4, fnsf5, fnsf6, fnsf7, fnsf8, fnsf9]
        have hsst2 : (SE.den E (p0e34)) = winR (E.i 14) (E.i 1) := by simp only [p0e0, p0e1, p0e2, p0e3, p0e4, p0e5, p0e6, p0e7, p0e8, p0e9, p0e10, p0e11, p0e12, p0e13, p0e14, p0e15, p0e16, p0e17, p0e18, p0e19, p0e20, p0e21, p0e22, p0e23, p0e24, p0e25, p0e26, p0e27, p0e28, p0e29, p0e30, p0e31, p0e32, p0e33, p0e34, p0e35, p0e36, p0e37, p0e38, p0e39, p0e40, p0e41, p0e42, p0e43, p0e44, p0e45, p0e46, p0e47, p0e48, p0e49, p0e50, p0e51, p0e52, p0e53, p0e54, d_c, d_v, d_ap, d_sli, d_slnil, d_bv, d_bc, d_mul, d_add, d_sub, d_wrap, d_tdiv, d_mx, hE, fnsf0, fnsf1, fnsf2, fnsf3, fnsf4, fnsf5, fnsf6, fnsf7, fnsf8, fnsf9]
        have hren : winOf (b2i (E.b 0)) (E.i 1) (E.i 14) = winR (E.i 14) (E.i 1) := by
          have hb0 : E.b 0 = true := hf ((.v 0), true) (by simp)
          rw [hb0]; rfl
        have hcell0 : (SE.den E (p0e34)) = winR (E.i 14) (E.i 1) := by simp only [p0e0, p0e1, p0e2, p0e3, p0e4, p0e5, p0e6, p0e7, p0e8, p0e9, p0e10, p0e11, p0e12, p0e13, p0e14, p0e15, p0e16, p0e17, p0e18, p0e19, p0e20, p0e21, p0e22, p0e23, p0e24, p0e25, p0e26, p0e27, p0e28, p0e29, p0e30, p0e31, p0e32, p0e33, p0e34, p0e35, p0e36, p0e37, p0e38, p0e39, p0e40, p0e41, p0e42, p0e43, p0e44, p0e45, p0e46, p0e47, p0e48, p0e49, p0e50, p0e51, p0e52, p0e53, p0e54, d_c, d_v, d_ap, d_sli, d_slnil, d_bv, d_bc, d_mul, d_add, d_sub, d_wrap, d_tdiv, d_mx, hE, fnsf0, fnsf1, fnsf2, fnsf3, fnsf4, fnsf5, fnsf6, fnsf7, fnsf8, fnsf9]
        have hcell1 : (SE.den E (p0e34)) = winR (E.i 14) (E.i 1) := by simp only [p0e0, p0e1, p0e2, p0e3, p0e4, p0e5, p0e6, p0e7, p0e8, p0e9, p0e10, p0e11, p0e12, p0e13, p0e14, p0e15, p0e16, p0e17, p0e18, p0e19, p0e20, p0e21, p0e22, p0e23, p0e24, p0e25, p0e26, p0e27, p0e28, p0e29, p0e30, p0e31, p0e32, p0e33, p0e34, p0e35, p0e36, p0e37, p0e38, p0e39, p0e40, p0e41, p0e42, p0e43, p0e44, p0e45, p0e46, p0e47, p0e48, p0e49, p0e50, p0e51, p0e52, p0e53, p0e54, d_c, d_v, d_ap, d_sli, d_slnil, d_bv, d_bc, d_mul, d_add, d_sub, d_wrap, d_tdiv, d_mx, hE, fnsf0, fnsf1, fnsf2, fnsf3, fnsf4, fnsf5, fnsf6, fnsf7, fnsf8, fnsf9]
        have hcell4 : p0e36.den E = pBudget (p0e3.den E) (pRate (winR (E.i 14) (E.i 1)) (winR (E.i 14) (E.i 1))) (E.i 5) (E.i 6) := by simp only [p0e0, p0e1, p0e2, p0e3, p0e4, p0e5, p0e6, p0e7, p0e8, p0e9, p0e10, p0e11, p0e12, p0e13, p0e14, p0e15, p0e16, p0e17, p0e18, p0e19, p0e20, p0e21, p0e22, p0e23, p0e24, p0e25, p0e26, p0e27, p0e28, p0e29, p0e30, p0e31, p0e32, p0e33, p0e34, p0e35, p0e36, p0e37, p0e38, p0e39, p0e40, p0e41, p0e42, p0e43, p0e44, p0e45, p0e46, p0e47, p0e48, p0e49, p0e50, p0e51, p0e52, p0e53, p0e54, d_c, d_v, d_ap, d_sli, d_slnil, d_bv, d_bc, d_mul, d_add, d_sub, d_wrap, d_tdiv, d_mx, hE, fnsf0, fnsf1, fnsf2, fnsf3, fnsf4, fnsf5, fnsf6, fnsf7, fnsf8, fnsf9]
        have hcell5 : p0e37.den E = pUntil (pRate (winR (E.i 14) (E.i 1)) (winR (E.i 14) (E.i 1))) (E.i 5) (E.i 6) := by simp only [p0e0, p0e1, p0e2, p0e3, p0e4, p0e5, p0e6, p0e7, p0e8, p0e9, p0e10, p0e11, p0e12, p0e13, p0e14, p0e15, p0e16, p0e17, p0e18, p0e19, p0e20, p0e21, p0e22, p0e23, p0e24, p0e25, p0e26, p0e27, p0e28, p0e29, p0e30, p0e31, p0e32, p0e33, p0e34, p0e35, p0e36, p0e37, p0e38, p0e39, p0e40, p0e41, p0e42, p0e43, p0e44, p0e45, p0e46, p0e47, p0e48, p0e49, p0e50, p0e51, p0e52, p0e53, p0e54, d_c, d_v, d_ap, d_sli, d_slnil, d_bv, d_bc, d_mul, d_add, d_sub, d_wrap, d_tdiv, d_mx, hE, fnsf0, fnsf1, fnsf2, fnsf3, fnsf4, fnsf5, fnsf6, fnsf7, fnsf8, fnsf9]
        refine ⟨⟨i + 1, fin7 hI (by omega) (hk0.trans hK) hk1 hk2 hk3 hk4 rfl rfl rfl rfl rfl (s' := ⟨E.i 12, E.i 11, E.i 11, winR (E.i 14) (E.i 1), winR (E.i 14) (E.i 1), E.i 5, E.i 6⟩) (by rw [cStep_2b (by show ¬ p0e9.den E ≤ E.i 13; have := hf ((.le p0e9 (.v 13)), false) (by simp); simp only [le_f, d_v] at this; omega)]; show (⟨E.i 12, E.i 11, E.i 11, winOf (b2i (E.b 0)) (E.i 1) (E.i 14), winOf (b2i (E.b 0)) (E.i 1) (E.i 14), E.i 5, E.i 6⟩ : CS) = _; rw [hren]) (CS.ext rfl rfl rfl hcw2 hsst2 rfl rfl) (e := p0e0) (l := (.i p0e34 (.b (.lt p0e34 p0e34) (.b (.le (.v 12) (.v 11)) (.b (.lt p0e5 p0e34) (.b (.le (.v 1) p0e36) (.i p0e37 .nil))))))) he0 rfl ?_⟩, fun b hb => ?_⟩
        · intro c hc
          match c, hc with
          | 0, _ => exact hcell0
          | 1, _ =>
            show b2i (decide (SE.den E (p0e34) < SE.den E (p0e34))) = b2i (decide (winR (E.i 14) (E.i 1) < winR (E.i 14) (E.i 1)))
            first | rw [hcell0, hcell1] | rw [hcell0]
          | 2, _ =>
            exact recT (by show E.i 12 ≠ -1; have := hf ((.eq (.v 12) (.c (-1))), false) (by simp); simpa only [eq_f, d_v, d_c] using this)
          | 3, _ =>
            show b2i (decide (p0e5.den E < SE.den E (p0e34))) = b2i (decide (p0e5.den E < winR (E.i 14) (E.i 1)))
            rw [hcell0]
          | 4, _ =>
            show b2i (decide (E.i 1 ≤ p0e36.den E)) = b2i (decide (E.i 1 ≤ pBudget (p0e3.den E) (pRate (winR (E.i 14) (E.i 1)) (winR (E.i 14) (E.i 1))) (E.i 5) (E.i 6)))
            rw [hcell4]
          | 5, _ => exact hcell5
        · obtain rfl := Option.some.inj hb
          show (E0.i 2 - (E.i 3 + 1)).toNat < _
          omega
      · -- p0x24
        intro hf
        skip
        simp only [facts_cons, facts_nil, lt_t, lt_f, le_t, le_f, eq_t, eq_f, and_true, d_c, d_v, d_bv] at hf
        have hs := hstep (by omega)
        obtain ⟨hs1, hs2⟩ := hs
        change (_ ∧ _) ∨ (_ ∧ E.i 14 ≤ 190000 ∧ E.i 13 = -1 ∧ E.i 15 = 4611686018427387903) ∨ (_ ∧ _) ∨ _ at hs2
        first
          | omega
          | (have r1 := pRate_ok (cw := E.i 14) (sst := E.i 15) k3
             have r2 := pRate_ok (cw := ackCw (E.i 14) (p0e5.den E) (E.i 1)) (sst := E.i 15) (ackCw_ok (by omega) (by omega))
             simp only [p0e0, p0e1, p0e2, p0e3, p0e4, p0e5, p0e6, p0e7, p0e8, p0e9, p0e10, p0e11, p0e12, p0e13, p0e14, p0e15, p0e16, p0e17, p0e18, p0e19, p0e20, p0e21, p0e22, p0e23, p0e24, p0e25, p0e26, p0e27, p0e28, p0e29, p0e30, p0e31, p0e32, p0e33, p0e34, p0e35, p0e36, p0e37, p0e38, p0e39, p0e40, p0e41, p0e42, p0e43, p0e44, p0e45, p0e46, p0e47, p0e48, p0e49, p0e50, p0e51, p0e52, p0e53, p0e54, d_c, d_v, d_ap, d_sli, d_slnil, d_bv, d_bc, d_mul, d_add, d_sub, d_wrap, d_tdiv, d_mx, hE, fnsf0, fnsf1, fnsf2, fnsf3, fnsf4, fnsf5, fnsf6, fnsf7, fnsf8, fnsf9] at hf r2
             omega)
          | (have r1 := pRate_ok (cw := E.i 14) (sst := E.i 15) k3
             simp only [p0e0, p0e1, p0e2, p0e3, p0e4, p0e5, p0e6, p0e7, p0e8, p0e9, p0e10, p0e11, p0e12, p0e13, p0e14, p0e15, p0e16, p0e17, p0e18, p0e19, p0e20, p0e21, p0e22, p0e23, p0e24, p0e25, p0e26, p0e27, p0e28, p0e29, p0e30, p0e31, p0e32, p0e33, p0e34, p0e35, p0e36, p0e37, p0e38, p0e39, p0e40, p0e41, p0e42, p0e43, p0e44, p0e45, p0e46, p0e47, p0e48, p0e49, p0e50, p0e51, p0e52, p0e53, p0e54, d_c, d_v, d_ap, d_sli, d_slnil, d_bv, d_bc, d_mul, d_add, d_sub, d_wrap, d_tdiv, d_mx, hE, fnsf0, fnsf1, fnsf2, fnsf3, fnsf4, fnsf5, fnsf6, fnsf7, fnsf8, fnsf9] at hf
             omega)
          | (have r0 := winR_ok (cw := E.i 14) (sz := E.i 1) k3 (by omega)
             have r1 := pRate_ok (cw := winR (E.i 14) (E.i 1)) (sst := winR (E.i 14) (E.i 1)) (by omega)
             simp only [p0e0, p0e1, p0e2, p0e3, p0e4, p0e5, p0e6, p0e7, p0e8, p0e9, p0e10, p0e11, p0e12, p0e13, p0e14, p0e15, p0e16, p0e17, p0e18, p0e19, p0e20, p0e21, p0e22, p0e23, p0e24, p0e25, p0e26, p0e27, p0e28, p0e29, p0e30, p0e31, p0e32, p0e33, p0e34, p0e35, p0e36, p0e37, p0e38, p0e39, p0e40, p0e41, p0e42, p0e43, p0e44, p0e45, p0e46, p0e47, p0e48, p0e49, p0e50, p0e51, p0e52, p0e53, p0e54, d_c, d_v, d_ap, d_sli, d_slnil, d_bv, d_bc, d_mul, d_add, d_sub, d_wrap, d_tdiv, d_mx, hE, fnsf0, fnsf1, fnsf2, fnsf3, fnsf4, fnsf5, fnsf6, fnsf7, fnsf8, fnsf9] at hf
             omega)
          | (have r0 := winC_ok (cw := E.i 14) (sz := E.i 1) k3 (by omega)
             have r1 := pRate_ok (cw := winC (E.i 14) (E.i 1)) (sst := winC (E.i 14) (E.i 1)) (by omega)
             simp only [p0e0, p0e1, p0e2, p0e3, p0e4, p0e5, p0e6, p0e7, p0e8, p0e9, p0e10, p0e11, p0e12, p0e13, p0e14, p0e15, p0e16, p0e17, p0e18, p0e19, p0e20, p0e21, p0e22, p0e23, p0e24, p0e25, p0e26, p0e27, p0e28, p0e29, p0e30, p0e31, p0e32, p0e33, p0e34, p0e35, p0e36, p0e37, p0e38, p0e39, p0e40, p0e41, p0e42, p0e43, p0e44, p0e45, p0e46, p0e47, p0e48, p0e49, p0e50, p0e51, p0e52, p0e53, p0e54, d_c, d_v, d_ap, d_sli, d_slnil, d_bv, d_bc, d_mul, d_add, d_sub, d_wrap, d_tdiv, d_mx, hE, fnsf0, fnsf1, fnsf2, fnsf3, fnsf4, fnsf5, fnsf6, fnsf7, fnsf8, fnsf9] at hf
             omega)
          | (have r1 := pRate_ok (cw := E.i 1 * 2) (sst := E.i 14 / 2) (by omega)
             simp only [p0e0, p0e1, p0e2, p0e3, p0e4, p0e5, p0e6, p0e7, p0e8, p0e9, p0e10, p0e11, p0e12, p0e13, p0e14, p0e15, p0e16, p0e17, p0e18, p0e19, p0e20, p0e21, p0e22, p0e23, p0e24, p0e25, p0e26, p0e27, p0e28, p0e29, p0e30, p0e31, p0e32, p0e33, p0e34, p0e35, p0e36, p0e37, p0e38, p0e39, p0e40, p0e41, p0e42, p0e43, p0e44, p0e45, p0e46, p0e47, p0e48, p0e49, p0e50, p0e51, p0e52, p0e53, p0e54, d_c, d_v, d_ap, d_sli, d_slnil, d_bv, d_bc, d_mul, d_add, d_sub, d_wrap, d_tdiv, d_mx, hE, fnsf0, fnsf1, fnsf2, fnsf3, fnsf4, fnsf5, fnsf6, fnsf7, fnsf8, fnsf9, hhalf] at hf
             omega)
      · -- p0x25
        intro hf
        skip
        simp only [facts_cons, facts_nil, lt_t, lt_f, le_t, le_f, eq_t, eq_f, and_true, d_c, d_v, d_bv] at hf
        have hs := hstep (by omega)
        obtain ⟨hs1, hs2⟩ := hs
        change (_ ∧ _) ∨ (_ ∧ E.i 14 ≤ 190000 ∧ E.i 13 = -1 ∧ E.i 15 = 4611686018427387903) ∨ (_ ∧ _) ∨ _ at hs2
        first
          | omega
          | (have r1 := pRate_ok (cw := E.i 14) (sst := E.i 15) k3
             have r2 := pRate_ok (cw := ackCw (E.i 14) (p0e5.den E) (E.i 1)) (sst := E.i 15) (ackCw_ok (by omega) (by omega))
             simp only [p0e0, p0e1, p0e2, p0e3, p0e4, p0e5, p0e6, p0e7, p0e8, p0e9, p0e10, p0e11, p0e12, p0e13, p0e14, p0e15, p0e16, p0e17, p0e18, p0e19, p0e20, p0e21, p0e22, p0e23, p0e24, p0e25, p0e26, p0e27, p0e28, p0e29, p0e30, p0e31, p0e32, p0e33, p0e34, p0e35, p0e36, p0e37, p0e38, p0e39, p0e40, p0e41, p0e42, p0e43, p0e44, p0e45, p0e46, p0e47, p0e48, p0e49, p0e50, p0e51, p0e52, p0e53, p0e54, d_c, d_v, d_ap, d_sli, d_slnil, d_bv, d_bc, d_mul, d_add, d_sub, d_wrap, d_tdiv, d_mx, hE, fnsf0, fnsf1, fnsf2, fnsf3, fnsf4, fnsf5, fnsf6, fnsf7, fnsf8, fnsf9] at hf r2
             omega)
          | (have r1 := pRate_ok (cw := E.i 14) (sst := E.i 15) k3
             simp only [p0e0, p0e1, p0e2, p0e3, p0e4, p0e5, p0e6, p0e7, p0e8, p0e9, p0e10, p0e11, p0e12, p0e13, p0e14, p0e15, p0e16, p0e17, p0e18, p0e19, p0e20, p0e21, p0e22, p0e23, p0e24, p0e25, p0e26, p0e27, p0e28, p0e29, p0e30, p0e31, p0e32, p0e33, p0e34, p0e35, p0e36, p0e37, p0e38, p0e39, p0e40, p0e41, p0e42, p0e43, p0e44, p0e45, p0e46, p0e47, p0e48, p0e49, p0e50, p0e51, p0e52, p0e53, p0e54, d_c, d_v, d_ap, d_sli, d_slnil, d_bv, d_bc, d_mul, d_add, d_sub, d_wrap, d_tdiv, d_mx, hE, fnsf0, fnsf1, fnsf2, fnsf3, fnsf4, fnsf5, fnsf6, fnsf7, fnsf8, fnsf9] at hf
             omega)
          | (have r0 := winR_ok (cw := E.i 14) (sz := E.i 1) k3 (by omega)
             have r1 := pRate_ok (cw := winR (E.i 14) (E.i 1)) (sst := winR (E.i 14) (E.i 1)) (by omega)
             simp only [p0e0, p0e1, p0e2, p0e3, p0e4, p0e5, p0e6, p0e7, p0e8, p0e9, p0e10, p0e11, p0e12, p0e13, p0e14, p0e15, p0e16, p0e17, p0e18, p0e19, p0e20, p0e21, p0e22, p0e23, p0e24, p0e25, p0e26, p0e27, p0e28, p0e29, p0e30, p0e31, p0e32, p0e33, p0e34, p0e35, p0e36, p0e37, p0e38, p0e39, p0e40, p0e41, p0e42, p0e43, p0e44, p0e45, p0e46, p0e47, p0e48, p0e49, p0e50, p0e51, p0e52, p0e53, p0e54, d_c, d_v, d_ap, d_sli, d_slnil, d_bv, d_bc, d_mul, d_add, d_sub, d_wrap, d_tdiv, d_mx, hE, fnsf0, fnsf1, fnsf2, fnsf3, fnsf4, fnsf5, fnsf6, fnsf7, fnsf8, fnsf9] at hf
             omega)
          | (have r0 := winC_ok (cw := E.i 14) (sz := E.i 1) k3 (by omega)
             have r1 := pRate_ok (cw := winC (E.i 14) (E.i 1)) (sst := winC (E.i 14) (E.i 1)) (by omega)
             simp only [p0e0, p0e1, p0e2, p0e3, p0e4, p0e5, p0e6, p0e7, p0e8, p0e9, p0e10, p0e11, p0e12, p0e13, p0e14, p0e15, p0e16, p0e17, p0e18, p0e19, p0e20, p0e21, p0e22, p0e23, p0e24, p0e25, p0e26, p0e27, p0e28, p0e29, p0e30, p0e31, p0e32, p0e33, p0e34, p0e35, p0e36, p0e37, p0e38, p0e39, p0e40, p0e41, p0e42, p0e43, p0e44, p0e45, p0e46, p0e47, p0e48, p0e49, p0e50, p0e51, p0e52, p0e53, p0e54, d_c, d_v, d_ap, d_sli, d_slnil, d_bv, d_bc, d_mul, d_add, d_sub, d_wrap, d_tdiv, d_mx, hE, fnsf0, fnsf1, fnsf2, fnsf3, fnsf4, fnsf5, fnsf6, fnsf7, fnsf8, fnsf9] at hf
             omega)
          | (have r1 := pRate_ok (cw := E.i 1 * 2) (sst := E.i 14 / 2) (by omega)
             simp only [p0e0, p0e1, p0e2, p0e3, p0e4, p0e5, p0e6, p0e7, p0e8, p0e9, p0e10, p0e11, p0e12, p0e13, p0e14, p0e15, p0e16, p0e17, p0e18, p0e19, p0e20, p0e21, p0e22, p0e23, p0e24, p0e25, p0e26, p0e27, p0e28, p0e29, p0e30, p0e31, p0e32, p0e33, p0e34, p0e35, p0e36, p0e37, p0e38, p0e39, p0e40, p0e41, p0e42, p0e43, p0e44, p0e45, p0e46, p0e47, p0e48, p0e49, p0e50, p0e51, p0e52, p0e53, p0e54, d_c, d_v, d_ap, d_sli, d_slnil, d_bv, d_bc, d_mul, d_add, d_sub, d_wrap, d_tdiv, d_mx, hE, fnsf0, fnsf1, fnsf2, fnsf3, fnsf4, fnsf5, fnsf6, fnsf7, fnsf8, fnsf9, hhalf] at hf
             omega)
      · -- winC (E.i 14) (E.i 1)
        intro hf
        refine ⟨⟨_, rfl, .inr ⟨rfl, rfl⟩⟩, fun o => ?_⟩
        have hK : p0e1.den E = 2 := by
          have := hf ((.eq p0e1 (.c 2)), true) (by simp)
          simpa only [eq_t, d_c] using this
        have hlt : E.i 3 < E.i 2 := by
          have := hf ((.lt (.v 3) (.v 2)), true) (by simp)
          simpa only [lt_t, d_v] using this
        have hcw2 : (SE.den E (p0e41)) = winC (E.i 14) (E.i 1) := by simp only [p0e0, p0e1, p0e2, p0e3, p0e4, p0e5, p0e6, p0e7, p0e8, p0e9, p0e10, p0e11, p0e12, p0e13, p0e14, p0e15, p0e16, p0e17, p0e18, p0e19, p0e20, p0e21, p0e22, p0e23, p0e24, p0e25, p0e26, p0e27, p0e28, p0e29, p0e30, p0e31, p0e32, p0e33, p0e34, p0e35, p0e36, p0e37, p0e38, p0e39, p0e40, p0e41, p0e42, p0e43, p0e44, p0e45, p0e46, p0e47, p0e48, p0e49, p0e50, p0e51, p0e52, p0e53, p0e54, d_c, d_v, d_ap, d_sli, d_slnil, d_bv, d_bc, d_mul, d_add, d_sub, d_wrap, d_tdiv, d_mx, hE, fnsf0, fnsf1, fnsf2, fnsf3, fnsf4, fnsf5, fnsf6, fnsf7, fnsf8, fnsf9]
        have hsst2 : (SE.den E (p0e41)) = winC (E.i 14) (E.i 1) := by simp only [p0e0, p0e1, p0e2, p0e3, p0e4, p0e5, p0e6, p0e7, p0e8, p0e9, p0e10, p0e11, p0e12, p0e13, p0e14, p0e15, p0e16, p0e17, p0e18, p0e19, p0e20, p0e21, p0e22, p0e23, p0e24, p0e25, p0e26, p0e27, p0e28, p0e29, p0e30, p0e31, p0e32, p0e33, p0e34, p0e35, p0e36, p0e37, p0e38, p0e39, p0e40, p0e41, p0e42, p0e43, p0e44, p0e45, p0e46, p0e47, p0e48, p0e49, p0e50, p0e51, p0e52, p0e53, p0e54, d_c, d_v, d_ap, d_sli, d_slnil, d_bv, d_bc, d_mul, d_add, d_sub, d_wrap, d_tdiv, d_mx, hE, fnsf0, fnsf1, fnsf2, fnsf3, fnsf4, fnsf5, fnsf6, fnsf7, fnsf8, fnsf9]
        have hren : winOf (b2i (E.b 0)) (E.i 1) (E.i 14) = winC (E.i 14) (E.i 1) := by
          have hb0 : E.b 0 = false := hf ((.v 0), false) (by simp)
          rw [hb0]; rfl
        have hcell0 : (SE.den E (p0e41)) = winC (E.i 14) (E.i 1) := by simp only [p0e0, p0e1, p0e2, p0e3, p0e4, p0e5, p0e6, p0e7, p0e8, p0e9, p0e10, p0e11, p0e12, p0e13, p0e14, p0e15, p0e16, p0e17, p0e18, p0e19, p0e20, p0e21, p0e22, p0e23, p0e24, p0e25, p0e26, p0e27, p0e28, p0e29, p0e30, p0e31, p0e32, p0e33, p0e34, p0e35, p0e36, p0e37, p0e38, p0e39, p0e40, p0e41, p0e42, p0e43, p0e44, p0e45, p0e46, p0e47, p0e48, p0e49, p0e50, p0e51, p0e52, p0e53, p0e54, d_c, d_v, d_ap, d_sli, d_slnil, d_bv, d_bc, d_mul, d_add, d_sub, d_wrap, d_tdiv, d_mx, hE, fnsf0, fnsf1, fnsf2, fnsf3, fnsf4, fnsf5, fnsf6, fnsf7, fnsf8, fnsf9]
        have hcell1 : (SE.den E (p0e41)) = winC (E.i 14) (E.i 1) := by simp only [p0e0, p0e1, p0e2, p0e3, p0e4, p0e5, p0e6, p0e7, p0e8, p0e9, p0e10, p0e11, p0e12, p0e13, p0e14, p0e15, p0e16, p0e17, p0e18, p0e19, p0e20, p0e21, p0e22, p0e23, p0e24, p0e25, p0e26, p0e27, p0e28, p0e29, p0e30, p0e31, p0e32, p0e33, p0e34, p0e35, p0e36, p0e37, p0e38, p0e39, p0e40, p0e41, p0e42, p0e43, p0e44, p0e45, p0e46, p0e47, p0e48, p0e49, p0e50, p0e51, p0e52, p0e53, p0e54, d_c, d_v, d_ap, d_sli, d_slnil, d_bv, d_bc, d_mul, d_add, d_sub, d_wrap, d_tdiv, d_mx, hE, fnsf0, fnsf1, fnsf2, fnsf3, fnsf4, fnsf5, fnsf6, fnsf7, fnsf8, fnsf9]
        have hcell4 : p0e43.den E = pBudget (p0e3.den E) (pRate (winC (E.i 14) (E.i 1)) (winC (E.i 14) (E.i 1))) (E.i 5) (E.i 6) := by simp only [p0e0, p0e1, p0e2, p0e3, p0e4, p0e5, p0e6, p0e7, p0e8, p0e9, p0e10, p0e11, p0e12, p0e13, p0e14, p0e15, p0e16, p0e17, p0e18, p0e19, p0e20, p0e21, p0e22, p0e23, p0e24, p0e25, p0e26, p0e27, p0e28, p0e29, p0e30, p0e31, p0e32, p0e33, p0e34, p0e35, p0e36, p0e37, p0e38, p0e39, p0e40, p0e41, p0e42, p0e43, p0e44, p0e45, p0e46, p0e47, p0e48, p0e49, p0e50, p0e51, p0e52, p0e53, p0e54, d_c, d_v, d_ap, d_sli, d_slnil, d_bv, d_bc, d_mul, d_add, d_sub, d_wrap, d_tdiv, d_mx, hE, fnsf0, fnsf1, fnsf2, fnsf3, fnsf4, fnsf5, fnsf6, fnsf7, fnsf8, fnsf9]
        have hcell5 : p0e44.den E = pUntil (pRate (winC (E.i 14) (E.i 1)) (winC (E.i 14) (E.i 1))) (E.i 5) (E.i 6) := by simp only [p0e0, p0e1, p0e2, p0e3, p0e4, p0e5, p0e6, p0e7, p0e8, p0e9, p0e10, p0e11, p0e12, p0e13, p0e14, p0e15, p0e16, p0e17, p0e18, p0e19, p0e20, p0e21, p0e22, p0e23, p0e24, p0e25, p0e26, p0e27, p0e28, p0e29, p0e30, p0e31, p0e32, p0e33, p0e34, p0e35, p0e36, p0e37, p0e38, p0e39, p0e40, p0e41, p0e42, p0e43, p0e44, p0e45, p0e46, p0e47, p0e48, p0e49, p0e50, p0e51, p0e52, p0e53, p0e54, d_c, d_v, d_ap, d_sli, d_slnil, d_bv, d_bc, d_mul, d_add, d_sub, d_wrap, d_tdiv, d_mx, hE, fnsf0, fnsf1, fnsf2, fnsf3, fnsf4, fnsf5, fnsf6, fnsf7, fnsf8, fnsf9]
        refine ⟨⟨i + 1, fin7 hI (by omega) (hk0.trans hK) hk1 hk2 hk3 hk4 rfl rfl rfl rfl rfl (s' := ⟨E.i 12, E.i 11, E.i 11, winC (E.i 14) (E.i 1), winC (E.i 14) (E.i 1), E.i 5, E.i 6⟩) (by rw [cStep_2b (by show ¬ p0e9.den E ≤ E.i 13; have := hf ((.le p0e9 (.v 13)), false) (by simp); simp only [le_f, d_v] at this; omega)]; show (⟨E.i 12, E.i 11, E.i 11, winOf (b2i (E.b 0)) (E.i 1) (E.i 14), winOf (b2i (E.b 0)) (E.i 1) (E.i 14), E.i 5, E.i 6⟩ : CS) = _; rw [hren]) (CS.ext rfl rfl rfl hcw2 hsst2 rfl rfl) (e := p0e0) (l := (.i p0e41 (.b (.lt p0e41 p0e41) (.b (.c false) (.b (.lt p0e5 p0e41) (.b (.le (.v 1) p0e43) (.i p0e44 .nil))))))) he0 rfl ?_⟩, fun b hb => ?_⟩
        · intro c hc
          match c, hc with
          | 0, _ => exact hcell0
          | 1, _ =>
            show b2i (decide (SE.den E (p0e41) < SE.den E (p0e41))) = b2i (decide (winC (E.i 14) (E.i 1) < winC (E.i 14) (E.i 1)))
            first | rw [hcell0, hcell1] | rw [hcell0]
          | 2, _ =>
            exact recF (by show E.i 12 = -1; have := hf ((.eq (.v 12) (.c (-1))), true) (by simp); simpa only [eq_t, d_v, d_c] using this)
          | 3, _ =>
            show b2i (decide (p0e5.den E < SE.den E (p0e41))) = b2i (decide (p0e5.den E < winC (E.i 14) (E.i 1)))
            rw [hcell0]
          | 4, _ =>
            show b2i (decide (E.i 1 ≤ p0e43.den E)) = b2i (decide (E.i 1 ≤ pBudget (p0e3.den E) (pRate (winC (E.i 14) (E.i 1)) (winC (E.i 14) (E.i 1))) (E.i 5) (E.i 6)))
            rw [hcell4]
          | 5, _ => exact hcell5
        · obtain rfl := Option.some.inj hb
          show (E0.i 2 - (E.i 3 + 1)).toNat < _
          omega
      · -- p0x27
        intro hf
        skip
        simp only [facts_cons, facts_nil, lt_t, lt_f, le_t, le_f, eq_t, eq_f, and_true, d_c, d_v, d_bv] at hf
        have hs := hstep (by omega)
        obtain ⟨hs1, hs2⟩ := hs
        change (_ ∧ _) ∨ (_ ∧ E.i 14 ≤ 190000 ∧ E.i 13 = -1 ∧ E.i 15 = 4611686018427387903) ∨ (_ ∧ _) ∨ _ at hs2
        first
          | omega
          | (have r1 := pRate_ok (cw := E.i 14) (sst := E.i 15) k3
             have r2 := pRate_ok (cw := ackCw (E.i 14) (p0e5.den E) (E.i 1)) (sst := E.i 15) (ackCw_ok (by omega) (by omega))
             simp only [p0e0, p0e1, p0e2, p0e3, p0e4, p0e5, p0e6, p0e7, p0e8, p0e9, p0e10, p0e11, p0e12, p0e13, p0e14, p0e15, p0e16, p0e17, p0e18, p0e19, p0e20, p0e21, p0e22, p0e23, p0e24, p0e25, p0e26, p0e27, p0e28, p0e29, p0e30, p0e31, p0e32, p0e33, p0e34, p0e35, p0e36, p0e37, p0e38, p0e39, p0e40, p0e41, p0e42, p0e43, p0e44, p0e45, p0e46, p0e47, p0e48, p0e49, p0e50, p0e51, p0e52, p0e53, p0e54, d_c, d_v, d_ap, d_sli, d_slnil, d_bv, d_bc, d_mul, d_add, d_sub, d_wrap, d_tdiv, d_mx, hE, fnsf0, fnsf1, fnsf2, fnsf3, fnsf4, fnsf5, fnsf6, fnsf7, fnsf8, fnsf9] at hf r2
             omega)
          | (have r1 := pRate_ok (cw := E.i 14) (sst := E.i 15) k3
             simp only [p0e0, p0e1, p0e2, p0e3, p0e4, p0e5, p0e6, p0e7, p0e8, p0e9, p0e10, p0e11, p0e12, p0e13, p0e14, p0e15, p0e16, p0e17, p0e18, p0e19, p0e20, p0e21, p0e22, p0e23, p0e24, p0e25, p0e26, p0e27, p0e28, p0e29, p0e30, p0e31, p0e32, p0e33, p0e34, p0e35, p0e36, p0e37, p0e38, p0e39, p0e40, p0e41, p0e42, p0e43, p0e44, p0e45, p0e46, p0e47, p0e48, p0e49, p0e50, p0e51, p0e52, p0e53, p0e54, d_c, d_v, d_ap, d_sli, d_slnil, d_bv, d_bc, d_mul, d_add, d_sub, d_wrap, d_tdiv, d_mx, hE, fnsf0, fnsf1, fnsf2, fnsf3, fnsf4, fnsf5, fnsf6, fnsf7, fnsf8, fnsf9] at hf
             omega)
          | (have r0 := winR_ok (cw := E.i 14) (sz := E.i 1) k3 (by omega)
             have r1 := pRate_ok (cw := winR (E.i 14) (E.i 1)) (sst := winR (E.i 14) (E.i 1)) (by omega)
             simp only [p0e0, p0e1, p0e2, p0e3, p0e4, p0e5, p0e6, p0e7, p0e8, p0e9, p0e10, p0e11, p0e12, p0e13, p0e14, p0e15, p0e16, p0e17, p0e18, p0e19, p0e20, p0e21, p0e22, p0e23, p0e24, p0e25, p0e26, p0e27, p0e28, p0e29, p0e30, p0e31, p0e32, p0e33, p0e34, p0e35, p0e36, p0e37, p0e38, p0e39, p0e40, p0e41, p0e42, p0e43, p0e44, p0e45, p0e46, p0e47, p0e48, p0e49, p0e50, p0e51, p0e52, p0e53, p0e54, d_c, d_v, d_ap, d_sli, d_slnil, d_bv, d_bc, d_mul, d_add, d_sub, d_wrap, d_tdiv, d_mx, hE, fnsf0, fnsf1, fnsf2, fnsf3, fnsf4, fnsf5, fnsf6, fnsf7, fnsf8, fnsf9] at hf
             omega)
          | (have r0 := winC_ok (cw := E.i 14) (sz := E.i 1) k3 (by omega)
             have r1 := pRate_ok (cw := winC (E.i 14) (E.i 1)) (sst := winC (E.i 14) (E.i 1)) (by omega)
             simp only [p0e0, p0e1, p0e2, p0e3, p0e4, p0e5, p0e6, p0e7, p0e8, p0e9, p0e10, p0e11, p0e12, p0e13, p0e14, p0e15, p0e16, p0e17, p0e18, p0e19, p0e20, p0e21, p0e22, p0e23, p0e24, p0e25, p0e26, p0e27, p0e28, p0e29, p0e30, p0e31, p0e32, p0e33, p0e34, p0e35, p0e36, p0e37, p0e38, p0e39, p0e40, p0e41, p0e42, p0e43, p0e44, p0e45, p0e46, p0e47, p0e48, p0e49, p0e50, p0e51, p0e52, p0e53, p0e54, d_c, d_v, d_ap, d_sli, d_slnil, d_bv, d_bc, d_mul, d_add, d_sub, d_wrap, d_tdiv, d_mx, hE, fnsf0, fnsf1, fnsf2, fnsf3, fnsf4, fnsf5, fnsf6, fnsf7, fnsf8, fnsf9] at hf
             omega)
          | (have r1 := pRate_ok (cw := E.i 1 * 2) (sst := E.i 14 / 2) (by omega)
             simp only [p0e0, p0e1, p0e2, p0e3, p0e4, p0e5, p0e6, p0e7, p0e8, p0e9, p0e10, p0e11, p0e12, p0e13, p0e14, p0e15, p0e16, p0e17, p0e18, p0e19, p0e20, p0e21, p0e22, p0e23, p0e24, p0e25, p0e26, p0e27, p0e28, p0e29, p0e30, p0e31, p0e32, p0e33, p0e34, p0e35, p0e36, p0e37, p0e38, p0e39, p0e40, p0e41, p0e42, p0e43, p0e44, p0e45, p0e46, p0e47, p0e48, p0e49, p0e50, p0e51, p0e52, p0e53, p0e54, d_c, d_v, d_ap, d_sli, d_slnil, d_bv, d_bc, d_mul, d_add, d_sub, d_wrap, d_tdiv, d_mx, hE, fnsf0, fnsf1, fnsf2, fnsf3, fnsf4, fnsf5, fnsf6, fnsf7, fnsf8, fnsf9, hhalf] at hf
             omega)
      · -- p0x28
        intro hf
        skip
        simp only [facts_cons, facts_nil, lt_t, lt_f, le_t, le_f, eq_t, eq_f, and_true, d_c, d_v, d_bv] at hf
        have hs := hstep (by omega)
        obtain ⟨hs1, hs2⟩ := hs
        change (_ ∧ _) ∨ (_ ∧ E.i 14 ≤ 190000 ∧ E.i 13 = -1 ∧ E.i 15 = 4611686018427387903) ∨ (_ ∧ _) ∨ _ at hs2
        first
          | omega
          | (have r1 := pRate_ok (cw := E.i 14) (sst := E.i 15) k3
             have r2 := pRate_ok (cw := ackCw (E.i 14) (p0e5.den E) (E.i 1)) (sst := E.i 15) (ackCw_ok (by omega) (by omega))
             simp only [p0e0, p0e1, p0e2, p0e3, p0e4, p0e5, p0e6, p0e7, p0e8, p0e9, p0e10, p0e11, p0e12, p0e13, p0e14, p0e15, p0e16, p0e17, p0e18, p0e19, p0e20, p0e21, p0e22, p0e23, p0e24, p0e25, p0e26, p0e27, p0e28, p0e29, p0e30, p0e31, p0e32, p0e33, p0e34, p0e35, p0e36, p0e37, p0e38, p0e39, p0e40, p0e41, p0e42, p0e43, p0e44, p0e45, p0e46, p0e47, p0e48, p0e49, p0e50, p0e51, p0e52, p0e53, p0e54, d_c, d_v, d_ap, d_sli, d_slnil, d_bv, d_bc, d_mul, d_add, d_sub, d_wrap, d_tdiv, d_mx, hE, fnsf0, fnsf1, fnsf2, fnsf3, fnsf4, fnsf5, fnsf6, fnsf7, fnsf8, fnsf9] at hf r2
             omega)
          | (have r1 := pRate_ok (cw := E.i 14) (sst := E.i 15) k3
             simp only [p0e0, p0e1, p0e2, p0e3, p0e4, p0e5, p0e6, p0e7, p0e8, p0e9, p0e10, p0e11, p0e12, p0e13, p0e14, p0e15, p0e16, p0e17, p0e18, p0e19, p0e20, p0e21, p0e22, p0e23, p0e24, p0e25, p0e26, p0e27, p0e28, p0e29, p0e30, p0e31, p0e32, p0e33, p0e34, p0e35, p0e36, p0e37, p0e38, p0e39, p0e40, p0e41, p0e42, p0e43, p0e44, p0e45, p0e46, p0e47, p0e48, p0e49, p0e50, p0e51, p0e52, p0e53, p0e54, d_c, d_v, d_ap, d_sli, d_slnil, d_bv, d_bc, d_mul, d_add, d_sub, d_wrap, d_tdiv, d_mx, hE, fnsf0, fnsf1, fnsf2, fnsf3, fnsf4, fnsf5, fnsf6, fnsf7, fnsf8, fnsf9] at hf
             omega)
          | (have r0 := winR_ok (cw := E.i 14) (sz := E.i 1) k3 (by omega)
             have r1 := pRate_ok (cw := winR (E.i 14) (E.i 1)) (sst := winR (E.i 14) (E.i 1)) (by omega)
             simp only [p0e0, p0e1, p0e2, p0e3, p0e4, p0e5, p0e6, p0e7, p0e8, p0e9, p0e10, p0e11, p0e12, p0e13, p0e14, p0e15, p0e16, p0e17, p0e18, p0e19, p0e20, p0e21, p0e22, p0e23, p0e24, p0e25, p0e26, p0e27, p0e28, p0e29, p0e30, p0e31, p0e32, p0e33, p0e34, p0e35, p0e36, p0e37, p0e38, p0e39, p0e40, p0e41, p0e42, p0e43, p0e44, p0e45, p0e46, p0e47, p0e48, p0e49, p0e50, p0e51, p0e52, p0e53, p0e54, d_c, d_v, d_ap, d_sli, d_slnil, d_bv, d_bc, d_mul, d_add, d_sub, d_wrap, d_tdiv, d_mx, hE, fnsf0, fnsf1, fnsf2, fnsf3, fnsf4, fnsf5, fnsf6, fnsf7, fnsf8, fnsf9] at hf
             omega)
          | (have r0 := winC_ok (cw := E.i 14) (sz := E.i 1) k3 (by omega)
             have r1 := pRate_ok (cw := winC (E.i 14) (E.i 1)) (sst := winC (E.i 14) (E.i 1)) (by omega)
             simp only [p0e0, p0e1, p0e2, p0e3, p0e4, p0e5, p0e6, p0e7, p0e8, p0e9, p0e10, p0e11, p0e12, p0e13, p0e14, p0e15, p0e16, p0e17, p0e18, p0e19, p0e20, p0e21, p0e22, p0e23, p0e24, p0e25, p0e26, p0e27, p0e28, p0e29, p0e30, p0e31, p0e32, p0e33, p0e34, p0e35, p0e36, p0e37, p0e38, p0e39, p0e40, p0e41, p0e42, p0e43, p0e44, p0e45, p0e46, p0e47, p0e48, p0e49, p0e50, p0e51, p0e52, p0e53, p0e54, d_c, d_v, d_ap, d_sli, d_slnil, d_bv, d_bc, d_mul, d_add, d_sub, d_wrap, d_tdiv, d_mx, hE, fnsf0, fnsf1, fnsf2, fnsf3, fnsf4, fnsf5, fnsf6, fnsf7, fnsf8, fnsf9] at hf
             omega)
          | (have r1 := pRate_ok (cw := E.i 1 * 2) (sst := E.i 14 / 2) (by omega)
             simp only [p0e0, p0e1, p0e2, p0e3, p0e4, p0e5, p0e6, p0e7, p0e8, p0e9, p0e10, p0e11, p0e12, p0e13, p0e14, p0e15, p0e16, p0e17, p0e18, p0e19, p0e20, p0e21, p0e22, p0e23, p0e24, p0e25, p0e26, p0e27, p0e28, p0e29, p0e30, p0e31, p0e32, p0e33, p0e34, p0e35, p0e36, p0e37, p0e38, p0e39, p0e40, p0e41, p0e42, p0e43, p0e44, p0e45, p0e46, p0e47, p0e48, p0e49, p0e50, p0e51, p0e52, p0e53, p0e54, d_c, d_v, d_ap, d_sli, d_slnil, d_bv, d_bc, d_mul, d_add, d_sub, d_wrap, d_tdiv, d_mx, hE, fnsf0, fnsf1, fnsf2, fnsf3, fnsf4, fnsf5, fnsf6, fnsf7, fnsf8, fnsf9, hhalf] at hf
             omega)
      · -- winC (E.i 14) (E.i 1)
        intro hf
        refine ⟨⟨_, rfl, .inr ⟨rfl, rfl⟩⟩, fun o => ?_⟩
        have hK : p0e1.den E = 2 := by
          have := hf ((.eq p0e1 (.c 2)), true) (by simp)
          simpa only [eq_t, d_c] using this
        have hlt : E.i 3 < E.i 2 := by
          have := hf ((.lt (.v 3) (.v 2)), true) (by simp)
          simpa only [lt_t, d_v] using this
        have hcw2 : (SE.den E (p0e41)) = winC (E.i 14) (E.i 1) := by simp only [p0e0, p0e1, p0e2, p0e3, p0e4, p0e5, p0e6, p0e7, p0e8, p0e9, p0e10, p0e11, p0e12, p0e13, p0e14, p0e15, p0e16, p0e17, p0e18, p0e19, p0e20, p0e21, p0e22, p0e23, p0e24, p0e25, p0e26, p0e27, p0e28, p0e29, p0e30, p0e31, p0e32, p0e33, p0e34, p0e35, p0e36, p0e37, p0e38, p0e39, p0e40, p0e41, p0e42, p0e43, p0e44, p0e45, p0e46, p0e47, p0e48, p0e49, p0e50, p0e51, p0e52, p0e53, p0e54, d_c, d_v, d_ap, d_sli, d_slnil, d_bv, d_bc, d_mul, d_add, d_sub, d_wrap, d_tdiv, d_mx, hE, fnsf0, fnsf1, fnsf2, fnsf3, fnsf4, fnsf5, fnsf6, fnsf7, fnsf8, fnsf9]
        have hsst2 : (SE.den E (p0e41)) = winC (E.i 14) (E.i 1) := by simp only [p0e0, p0e1, p0e2, p0e3, p0e4, p0e5, p0e6, p0e7, p0e8, p0e9, p0e10, p0e11, p0e12, p0e13, p0e14, p0e15, p0e16, p0e17, p0e18, p0e19, p0e20, p0e21, p0e22, p0e23, p0e24, p0e25, p0e26, p0e27, p0e28, p0e29, p0e30, p0e31, p0e32, p0e33, p0e34, p0e35, p0e36, p0e37, p0e38, p0e39, p0e40, p0e41, p0e42, p0e43, p0e44, p0e45, p0e46, p0e47, p0e48, p0e49, p0e50, p0e51, p0e52, p0e53, p0e54, d_c, d_v, d_ap, d_sli, d_slnil, d_bv, d_bc, d_mul, d_add, d_sub, d_wrap, d_tdiv, d_mx, hE, fnsf0, fnsf1, fnsf2, fnsf3, fnsf4, fnsf5, fnsf6, fnsf7, fnsf8, fnsf9]
        have hren : winOf (b2i (E.b 0)) (E.i 1) (E.i 14) = winC (E.i 14) (E.i 1) := by
          have hb0 : E.b 0 = false := hf ((.v 0), false) (by simp)
          rw [hb0]; rfl
        have hcell0 : (SE.den E (p0e41)) = winC (E.i 14) (E.i 1) := by simp only [p0e0, p0e1, p0e2, p0e3, p0e4, p0e5, p0e6, p0e7, p0e8, p0e9, p0e10, p0e11, p0e12, p0e13, p0e14, p0e15, p0e16, p0e17, p0e18, p0e19, p0e20, p0e21, p0e22, p0e23, p0e24, p0e25, p0e26, p0e27, p0e28, p0e29, p0e30, p0e31, p0e32, p0e33, p0e34, p0e35, p0e36, p0e37, p0e38, p0e39, p0e40, p0e41, p0e42, p0e43, p0e44, p0e45, p0e46, p0e47, p0e48, p0e49, p0e50, p0e51, p0e52, p0e53, p0e54, d_c, d_v, d_ap, d_sli, d_slnil, d_bv, d_bc, d_mul, d_add, d_sub, d_wrap, d_tdiv, d_mx, hE, fnsf0, fnsf1, fnsf2, fnsf3, fnsf4, fnsf5, fnsf6, fnsf7, fnsf8, fnsf9]
        have hcell1 : (SE.den E (p0e41)) = winC (E.i 14) (E.i 1) := by simp only [p0e0, p0e1, p0e2, p0e3, p0e4, p0e5, p0e6, p0e7, p0e8, p0e9, p0e10, p0e11, p0e12, p0e13, p0e14, p0e15, p0e16, p0e17, p0e18, p0e19, p0e20, p0e21, p0e22, p0e23, p0e24, p0e25, p0e26, p0e27, p0e28, p0e29, p0e30, p0e31, p0e32, p0e33, p0e34, p0e35, p0e36, p0e37, p0e38, p0e39, p0e40, p0e41, p0e42, p0e43, p0e44, p0e45, p0e46, p0e47, p0e48, p0e49, p0e50, p0e51, p0e52, p0e53, p0e54, d_c, d_v, d_ap, d_sli, d_slnil, d_bv, d_bc, d_mul, d_add, d_sub, d_wrap, d_tdiv, d_mx, hE, fnsf0, fnsf1, fnsf2, fnsf3, fnsf4, fnsf5, fnsf6, fnsf7, fnsf8, fnsf9]
        have hcell4 : p0e43.den E = pBudget (p0e3.den E) (pRate (winC (E.i 14) (E.i 1)) (winC (E.i 14) (E.i 1))) (E.i 5) (E.i 6) := by simp only [p0e0, p0e1, p0e2, p0e3, p0e4, p0e5, p0e6, p0e7, p0e8, p0e9, p0e10, p0e11, p0e12, p0e13, p0e14, p0e15, p0e16, p0e17, p0e18, p0e19, p0e20, p0e21, p0e22, p0e23, p0e24, p0e25, p0e26, p0e27, p0e28, p0e29, p0e30, p0e31, p0e32, p0e33, p0e34, p0e35, p0e36, p0e37, p0e38, p0e39, p0e40, p0e41, p0e42, p0e43, p0e44, p0e45, p0e46, p0e47, p0e48, p0e49, p0e50, p0e51, p0e52, p0e53, p0e54, d_c, d_v, d_ap, d_sli, d_slnil, d_bv, d_bc, d_mul, d_add, d_sub, d_wrap, d_tdiv, d_mx, hE, fnsf0, fnsf1, fnsf2, fnsf3, fnsf4, fnsf5, fnsf6, fnsf7, fnsf8, fnsf9]
        have hcell5 : p0e44.den E = pUntil (pRate (winC (E.i 14) (E.i 1)) (winC (E.i 14) (E.i 1))) (E.i 5) (E.i 6) := by simp only [p0e0, p0e1, p0e2, p0e3, p0e4, p0e5, p0e6, p0e7, p0e8, p0e9, p0e10, p0e11, p0e12, p0e13, p0e14, p0e15, p0e16, p0e17, p0e18, p0e19, p0e20, p0e21, p0e22, p0e23, p0e24, p0e25, p0e26, p0e27, p0e28, p0e29, p0e30, p0e31, p0e32, p0e33, p0e34, p0e35, p0e36, p0e37, p0e38, p0e39, p0e40, p0e41, p0e42, p0e43, p0e44, p0e45, p0e46, p0e47, p0e48, p0e49, p0e50, p0e51, p0e52, p0e53, p0e54, d_c, d_v, d_ap, d_sli, d_slnil, d_bv, d_bc, d_mul, d_add, d_sub, d_wrap, d_tdiv, d_mx, hE, fnsf0, fnsf1, fnsf2, fnsf3, fnsf4, fnsf5, fnsf6, fnsf7, fnsf8, fnsf9]
        refine ⟨⟨i + 1, fin7 hI (by omega) (hk0.trans hK) hk1 hk2 hk3 hk4 rfl rfl rfl rfl rfl (s' := ⟨E.i 12, E.i 11, E.i 11, winC (E.i 14) (E.i 1), winC (E.i 14) (E.i 1), E.i 5, E.i 6⟩) (by rw [cStep_2b (by show ¬ p0e9.den E ≤ E.i 13; have := hf ((.le p0e9 (.v 13)), false) (by simp); simp only [le_f, d_v] at this; omega)]; show (⟨E.i 12, E.i 11, E.i 11, winOf (b2i (E.b 0)) (E.i 1) (E.i 14), winOf (b2i (E.b 0)) (E.i 1) (E.i 14), E.i 5, E.i 6⟩ : CS) = _; rw [hren]) (CS.ext rfl rfl rfl hcw2 hsst2 rfl rfl) (e := p0e0) (l := (.i p0e41 (.b (.lt p0e41 p0e41) (.b (.le (.v 12) (.v 11)) (.b (.lt p0e5 p0e41) (.b (.le (.v 1) p0e43) (.i p0e44 .nil))))))) he0 rfl ?_⟩, fun b hb => ?_⟩
        · intro c hc
          match c, hc with
          | 0, _ => exact hcell0
          | 1, _ =>
            show b2i (decide (SE.den E (p0e41) < SE.den E (p0e41))) = b2i (decide (winC (E.i 14) (E.i 1) < winC (E.i 14) (E.i 1)))
            first | rw [hcell0, hcell1] | rw [hcell0]
          | 2, _ =>
            exact recT (by show E.i 12 ≠ -1; have := hf ((.eq (.v 12) (.c (-1))), false) (by simp); simpa only [eq_f, d_v, d_c] using this)
          | 3, _ =>
            show b2i (decide (p0e5.den E < SE.den E (p0e41))) = b2i (decide (p0e5.den E < winC (E.i 14) (E.i 1)))
            rw [hcell0]
          | 4, _ =>
            show b2i (decide (E.i 1 ≤ p0e43.den E)) = b2i (decide (E.i 1 ≤ pBudget (p0e3.den E) (pRate (winC (E.i 14) (E.i 1)) (winC (E.i 14) (E.i 1))) (E.i 5) (E.i 6)))
            rw [hcell4]
          | 5, _ => exact hcell5
        · obtain rfl := Option.some.inj hb
          show (E0.i 2 - (E.i 3 + 1)).toNat < _
          omega
      · -- p0x30
        intro hf
        skip
        simp only [facts_cons, facts_nil, lt_t, lt_f, le_t, le_f, eq_t, eq_f, and_true, d_c, d_v, d_bv] at hf
        have hs := hstep (by omega)
        obtain ⟨hs1, hs2⟩ := hs
        change (_ ∧ _) ∨ (_ ∧ E.i 14 ≤ 190000 ∧ E.i 13 = -1 ∧ E.i 15 = 4611686018427387903) ∨ (_ ∧ _) ∨ _ at hs2
        first
          | omega
          | (have r1 := pRate_ok (cw := E.i 14) (sst := E.i 15) k3
             have r2 := pRate_ok (cw := ackCw (E.i 14) (p0e5.den E) (E.i 1)) (sst := E.i 15) (ackCw_ok (by omega) (by omega))
             simp only [p0e0, p0e1, p0e2, p0e3, p0e4, p0e5, p0e6, p0e7, p0e8, p0e9, p0e10, p0e11, p0e12, p0e13, p0e14, p0e15, p0e16, p0e17, p0e18, p0e19, p0e20, p0e21, p0e22, p0e23, p0e24, p0e25, p0e26, p0e27, p0e28, p0e29, p0e30, p0e31, p0e32, p0e33, p0e34, p0e35, p0e36, p0e37, p0e38, p0e39, p0e40, p0e41, p0e42, p0e43, p0e44, p0e45, p0e46, p0e47, p0e48, p0e49, p0e50, p0e51, p0e52, p0e53, p0e54, d_c, d_v, d_ap, d_sli, d_slnil, d_bv, d_bc, d_mul, d_add, d_sub, d_wrap, d_tdiv, d_mx, hE, fnsf0, fnsf1, fnsf2, fnsf3, fnsf4, fnsf5, fnsf6, fnsf7, fnsf8, fnsf9] at hf r2
             omega)
          | (have r1 := pRate_ok (cw := E.i 14) (sst := E.i 15) k3
             simp only [p0e0, p0e1, p0e2, p0e3, p0e4, p0e5, p0e6, p0e7, p0e8, p0e9, p0e10, p0e11, p0e12, p0e13, p0e14, p0e15, p0e16, p0e17, p0e18, p0e19, p0e20, p0e21, p0e22, p0e23, p0e24, p0e25, p0e26, p0e27, p0e28, p0e29, p0e30, p0e31, p0e32, p0e33, p0e34, p0e35, p0e36, p0e37, p0e38, p0e39, p0e40, p0e41, p0e42, p0e43, p0e44, p0e45, p0e46, p0e47, p0e48, p0e49, p0e50, p0e51, p0e52, p0e53, p0e54, d_c, d_v, d_ap, d_sli, d_slnil, d_bv, d_bc, d_mul, d_add, d_sub, d_wrap, d_tdiv, d_mx, hE, fnsf0, fnsf1, fnsf2, fnsf3, fnsf4, fnsf5, fnsf6, fnsf7, fnsf8, fnsf9] at hf
             omega)
          | (have r0 := winR_ok (cw := E.i 14) (sz := E.i 1) k3 (by omega)
             have r1 := pRate_ok (cw := winR (E.i 14) (E.i 1)) (sst := winR (E.i 14) (E.i 1)) (by omega)
             simp only [p0e0, p0e1, p0e2, p0e3, p0e4, p0e5, p0e6, p0e7, p0e8, p0e9, p0e10, p0e11, p0e12, p0e13, p0e14, p0e15, p0e16, p0e17, p0e18, p0e19, p0e20, p0e21, p0e22, p0e23, p0e24, p0e25, p0e26, p0e27, p0e28, p0e29, p0e30, p0e31, p0e32, p0e33, p0e34, p0e35, p0e36, p0e37, p0e38, p0e39, p0e40, p0e41, p0e42, p0e43, p0e44, p0e45, p0e46, p0e47, p0e48, p0e49, p0e50, p0e51, p0e52, p0e53, p0e54, d_c, d_v, d_ap, d_sli, d_slnil, d_bv, d_bc, d_mul, d_add, d_sub, d_wrap, d_tdiv, d_mx, hE, fnsf0, fnsf1, fnsf2, fnsf3, fnsf4, fnsf5, fnsf6, fnsf7, fnsf8, fnsf9] at hf
             omega)
          | (have r0 := winC_ok (cw := E.i 14) (sz := E.i 1) k3 (by omega)
             have r1 := pRate_ok (cw := winC (E.i 14) (E.i 1)) (sst := winC (E.i 14) (E.i 1)) (by omega)
             simp only [p0e0, p0e1, p0e2, p0e3, p0e4, p0e5, p0e6, p0e7, p0e8, p0e9, p0e10, p0e11, p0e12, p0e13, p0e14, p0e15, p0e16, p0e17, p0e18, p0e19, p0e20, p0e21, p0e22, p0e23, p0e24, p0e25, p0e26, p0e27, p0e28, p0e29, p0e30, p0e31, p0e32, p0e33, p0e34, p0e35, p0e36, p0e37, p0e38, p0e39, p0e40, p0e41, p0e42, p0e43, p0e44, p0e45, p0e46, p0e47, p0e48, p0e49, p0e50, p0e51, p0e52, p0e53, p0e54, d_c, d_v, d_ap, d_sli, d_slnil, d_bv, d_bc, d_mul, d_add, d_sub, d_wrap, d_tdiv, d_mx, hE, fnsf0, fnsf1, fnsf2, fnsf3, fnsf4, fnsf5, fnsf6, fnsf7, fnsf8, fnsf9] at hf
             omega)
          | (have r1 := pRate_ok (cw := E.i 1 * 2) (sst := E.i 14 / 2) (by omega)
             simp only [p0e0, p0e1, p0e2, p0e3, p0e4, p0e5, p0e6, p0e7, p0e8, p0e9, p0e10, p0e11, p0e12, p0e13, p0e14, p0e15, p0e16, p0e17, p0e18, p0e19, p0e20, p0e21, p0e22, p0e23, p0e24, p0e25, p0e26, p0e27, p0e28, p0e29, p0e30, p0e31, p0e32, p0e33, p0e34, p0e35, p0e36, p0e37, p0e38, p0e39, p0e40, p0e41, p0e42, p0e43, p0e44, p0e45, p0e46, p0e47, p0e48, p0e49, p0e50, p0e51, p0e52, p0e53, p0e54, d_c, d_v, d_ap, d_sli, d_slnil, d_bv, d_bc, d_mul, d_add, d_sub, d_wrap, d_tdiv, d_mx, hE, fnsf0, fnsf1, fnsf2, fnsf3, fnsf4, fnsf5, fnsf6, fnsf7, fnsf8, fnsf9, hhalf] at hf
             omega)
      · -- p0x31
        intro hf
        skip
        simp only [facts_cons, facts_nil, lt_t, lt_f, le_t, le_f, eq_t, eq_f, and_true, d_c, d_v, d_bv] at hf
        have hs := hstep (by omega)
        obtain ⟨hs1, hs2⟩ := hs
        change (_ ∧ _) ∨ (_ ∧ E.i 14 ≤ 190000 ∧ E.i 13 = -1 ∧ E.i 15 = 4611686018427387903) ∨ (_ ∧ _) ∨ _ at hs2
        first
          | omega
          | (have r1 := pRate_ok (cw := E.i 14) (sst := E.i 15) k3
             have r2 := pRate_ok (cw := ackCw (E.i 14) (p0e5.den E) (E.i 1)) (sst := E.i 15) (ackCw_ok (by omega) (by omega))
             simp only [p0e0, p0e1, p0e2, p0e3, p0e4, p0e5, p0e6, p0e7, p0e8, p0e9, p0e10, p0e11, p0e12, p0e13, p0e14, p0e15, p0e16, p0e17, p0e18, p0e19, p0e20, p0e21, p0e22, p0e23, p0e24, p0e25, p0e26, p0e27, p0e28, p0e29, p0e30, p0e31, p0e32, p0e33, p0e34, p0e35, p0e36, p0e37, p0e38, p0e39, p0e40, p0e41, p0e42, p0e43, p0e44, p0e45, p0e46, p0e47, p0e48, p0e49, p0e50, p0e51, p0e52, p0e53, p0e54, d_c, d_v, d_ap, d_sli, d_slnil, d_bv, d_bc, d_mul, d_add, d_sub, d_wrap, d_tdiv, d_mx, hE, fnsf0, fnsf1, fnsf2, fnsf3, fnsf4, fnsf5, fnsf6, fnsf7, fnsf8, fnsf9] at hf r2
             omega)
          | (have r1 := pRate_ok (cw := E.i 14) (sst := E.i 15) k3
             simp only [p0e0, p0e1, p0e2, p0e3, p0e4, p0e5, p0e6, p0e7, p0e8, p0e9, p0e10, p0e11, p0e12, p0e13, p0e14, p0e15, p0e16, p0e17, p0e18, p0e19, p0e20, p0e21, p0e22, p0e23, p0e24, p0e25, p0e26, p0e27, p0e28, p0e29, p0e30, p0e31, p0e32, p0e33, p0e34, p0e35, p0e36, p0e37, p0e38, p0e39, p0e40, p0e41, p0e42, p0e43, p0e44, p0e45, p0e46, p0e47, p0e48, p0e49, p0e50, p0e51, p0e52, p0e53, p0e54, d_c, d_v, d_ap, d_sli, d_slnil, d_bv, d_bc, d_mul, d_add, d_sub, d_wrap, d_tdiv, d_mx, hE, fnsf0, fnsf1, fnsf2, fnsf3, fnsf4, fnsf5, fnsf6, fnsf7, fnsf8, fnsf9] at hf
             omega)
          | (have r0 := winR_ok (cw := E.i 14) (sz := E.i 1) k3 (by omega)
             have r1 := pRate_ok (cw := winR (E.i 14) (E.i 1)) (sst := winR (E.i 14) (E.i 1)) (by omega)
             simp only [p0e0, p0e1, p0e2, p0e3, p0e4, p0e5, p0e6, p0e7, p0e8, p0e9, p0e10, p0e11, p0e12, p0e13, p0e14, p0e15, p0e16, p0e17, p0e18, p0e19, p0e20, p0e21, p0e22, p0e23, p0e24, p0e25, p0e26, p0e27, p0e28, p0e29, p0e30, p0e31, p0e32, p0e33, p0e34, p0e35, p0e36, p0e37, p0e38, p0e39, p0e40, p0e41, p0e42, p0e43, p0e44, p0e45, p0e46, p0e47, p0e48, p0e49, p0e50, p0e51, p0e52, p0e53, p0e54, d_c, d_v, d_ap, d_sli, d_slnil, d_bv, d_bc, d_mul, d_add, d_sub, d_wrap, d_tdiv, d_mx, hE, fnsf0, fnsf1, fnsf2, fnsf3, fnsf4, fnsf5, fnsf6, fnsf7, fnsf8, fnsf9] at hf
             omega)
          | (have r0 := winC_ok (cw := E.i 14) (sz := E.i 1) k3 (by omega)
             have r1 := pRate_ok (cw := winC (E.i 14) (E.i 1)) (sst := winC (E.i 14) (E.i 1)) (by omega)
             simp only [p0e0, p0e1, p0e2, p0e3, p0e4, p0e5, p0e6, p0e7, p0e8, p0e9, p0e10, p0e11, p0e12, p0e13, p0e14, p0e15, p0e16, p0e17, p0e18, p0e19, p0e20, p0e21, p0e22, p0e23, p0e24, p0e25, p0e26, p0e27, p0e28, p0e29, p0e30, p0e31, p0e32, p0e33, p0e34, p0e35, p0e36, p0e37, p0e38, p0e39, p0e40, p0e41, p0e42, p0e43, p0e44, p0e45, p0e46, p0e47, p0e48, p0e49, p0e50, p0e51, p0e52, p0e53, p0e54, d_c, d_v, d_ap, d_sli, d_slnil, d_bv, d_bc, d_mul, d_add, d_sub, d_wrap, d_tdiv, d_mx, hE, fnsf0, fnsf1, fnsf2, fnsf3, fnsf4, fnsf5, fnsf6, fnsf7, fnsf8, fnsf9] at hf
             omega)
          | (have r1 := pRate_ok (cw := E.i 1 * 2) (sst := E.i 14 / 2) (by omega)
             simp only [p0e0, p0e1, p0e2, p0e3, p0e4, p0e5, p0e6, p0e7, p0e8, p0e9, p0e10, p0e11, p0e12, p0e13, p0e14, p0e15, p0e16, p0e17, p0e18, p0e19, p0e20, p0e21, p0e22, p0e23, p0e24, p0e25, p0e26, p0e27, p0e28, p0e29, p0e30, p0e31, p0e32, p0e33, p0e34, p0e35, p0e36, p0e37, p0e38, p0e39, p0e40, p0e41, p0e42, p0e43, p0e44, p0e45, p0e46, p0e47, p0e48, p0e49, p0e50, p0e51, p0e52, p0e53, p0e54, d_c, d_v, d_ap, d_sli, d_slnil, d_bv, d_bc, d_mul, d_add, d_sub, d_wrap, d_tdiv, d_mx, hE, fnsf0, fnsf1, fnsf2, fnsf3, fnsf4, fnsf5, fnsf6, fnsf7, fnsf8, fnsf9, hhalf] at hf
             omega)
      · -- p0x32
        intro hf
        skip
        simp only [facts_cons, facts_nil, lt_t, lt_f, le_t, le_f, eq_t, eq_f, and_true, d_c, d_v, d_bv] at hf
        have hs := hstep (by omega)
        obtain ⟨hs1, hs2⟩ := hs
        change (_ ∧ _) ∨ (_ ∧ E.i 14 ≤ 190000 ∧ E.i 13 = -1 ∧ E.i 15 = 4611686018427387903) ∨ (_ ∧ _) ∨ _ at hs2
        first
          | omega
          | (have r1 := pRate_ok (cw := E.i 14) (sst := E.i 15) k3
             have r2 := pRate_ok (cw := ackCw (E.i 14) (p0e5.den E) (E.i 1)) (sst := E.i 15) (ackCw_ok (by omega) (by omega))
             simp only [p0e0, p0e1, p0e2, p0e3, p0e4, p0e5, p0e6, p0e7, p0e8, p0e9, p0e10, p0e11, p0e12, p0e13, p0e14, p0e15, p0e16, p0e17, p0e18, p0e19, p0e20, p0e21, p0e22, p0e23, p0e24, p0e25, p0e26, p0e27, p0e28, p0e29, p0e30, p0e31, p0e32, p0e33, p0e34, p0e35, p0e36, p0e37, p0e38, p0e39, p0e40, p0e41, p0e42, p0e43, p0e44, p0e45, p0e46, p0e47, p0e48, p0e49, p0e50, p0e51, p0e52, p0e53, p0e54, d_c, d_v, d_ap, d_sli, d_slnil, d_bv, d_bc, d_mul, d_add, d_sub, d_wrap, d_tdiv, d_mx, hE, fnsf0, fnsf1, fnsf2, fnsf3, fnsf4, fnsf5, fnsf6, fnsf7, fnsf8, fnsf9] at hf r2
             omega)
          | (have r1 := pRate_ok (cw := E.i 14) (sst := E.i 15) k3
             simp only [p0e0, p0e1, p0e2, p0e3, p0e4, p0e5, p0e6, p0e7, p0e8, p0e9, p0e10, p0e11, p0e12, p0e13, p0e14, p0e15, p0e16, p0e17, p0e18, p0e19, p0e20, p0e21, p0e22, p0e23, p0e24, p0e25, p0e26, p0e27, p0e28, p0e29, p0e30, p0e31, p0e32, p0e33, p0e34, p0e35, p0e36, p0e37, p0e38, p0e39, p0e40, p0e41, p0e42, p0e43, p0e44, p0e45, p0e46, p0e47, p0e48, p0e49, p0e50, p0e51, p0e52, p0e53, p0e54, d_c, d_v, d_ap, d_sli, d_slnil, d_bv, d_bc, d_mul, d_add, d_sub, d_wrap, d_tdiv, d_mx, hE, fnsf0, fnsf1, fnsf2, fnsf3, fnsf4, fnsf5, fnsf6, fnsf7, fnsf8, fnsf9] at hf
             omega)
          | (have r0 := winR_ok (cw := E.i 14) (sz := E.i 1) k3 (by omega)
             have r1 := pRate_ok (cw := winR (E.i 14) (E.i 1)) (sst := winR (E.i 14) (E.i 1)) (by omega)
             simp only [p0e0, p0e1, p0e2, p0e3, p0e4, p0e5, p0e6, p0e7, p0e8, p0e9, p0e10, p0e11, p0e12, p0e13, p0e14, p0e15, p0e16, p0e17, p0e18, p0e19, p0e20, p0e21, p0e22, p0e23, p0e24, p0e25, p0e26, p0e27, p0e28, p0e29, p0e30, p0e31, p0e32, p0e33, p0e34, p0e35, p0e36, p0e37, p0e38, p0e39, p0e40, p0e41, p0e42, p0e43, p0e44, p0e45, p0e46, p0e47, p0e48, p0e49, p0e50, p0e51, p0e52, p0e53, p0e54, d_c, d_v, d_ap, d_sli, d_slnil, d_bv, d_bc, d_mul, d_add, d_sub, d_wrap, d_tdiv, d_mx, hE, fnsf0, fnsf1, fnsf2, fnsf3, fnsf4, fnsf5, fnsf6, fnsf7, fnsf8, fnsf9] at hf
             omega)
          | (have r0 := winC_ok (cw := E.i 14) (sz := E.i 1) k3 (by omega)
             have r1 := pRate_ok (cw := winC (E.i 14) (E.i 1)) (sst := winC (E.i 14) (E.i 1)) (by omega)
             simp only [p0e0, p0e1, p0e2, p0e3, p0e4, p0e5, p0e6, p0e7, p0e8, p0e9, p0e10, p0e11, p0e12, p0e13, p0e14, p0e15, p0e16, p0e17, p0e18, p0e19, p0e20, p0e21, p0e22, p0e23, p0e24, p0e25, p0e26, p0e27, p0e28, p0e29, p0e30, p0e31, p0e32, p0e33, p0e34, p0e35, p0e36, p0e37, p0e38, p0e39, p0e40, p0e41, p0e42, p0e43, p0e44, p0e45, p0e46, p0e47, p0e48, p0e49, p0e50, p0e51, p0e52, p0e53, p0e54, d_c, d_v, d_ap, d_sli, d_slnil, d_bv, d_bc, d_mul, d_add, d_sub, d_wrap, d_tdiv, d_mx, hE, fnsf0, fnsf1, fnsf2, fnsf3, fnsf4, fnsf5, fnsf6, fnsf7, fnsf8, fnsf9] at hf
             omega)
          | (have r1 := pRate_ok (cw := E.i 1 * 2) (sst := E.i 14 / 2) (by omega)
             simp only [p0e0, p0e1, p0e2, p0e3, p0e4, p0e5, p0e6, p0e7, p0e8, p0e9, p0e10, p0e11, p0e12, p0e13, p0e14, p0e15, p0e16, p0e17, p0e18, p0e19, p0e20, p0e21, p0e22, p0e23, p0e24, p0e25, p0e26, p0e27, p0e28, p0e29, p0e30, p0e31, p0e32, p0e33, p0e34, p0e35, p0e36, p0e37, p0e38, p0e39, p0e40, p0e41, p0e42, p0e43, p0e44, p0e45, p0e46, p0e47, p0e48, p0e49, p0e50, p0e51, p0e52, p0e53, p0e54, d_c, d_v, d_ap, d_sli, d_slnil, d_bv, d_bc, d_mul, d_add, d_sub, d_wrap, d_tdiv, d_mx, hE, fnsf0, fnsf1, fnsf2, fnsf3, fnsf4, fnsf5, fnsf6, fnsf7, fnsf8, fnsf9, hhalf] at hf
             omega)
      · -- p0x33
        intro hf
        refine ⟨⟨_, rfl, .inr ⟨rfl, rfl⟩⟩, fun o => ?_⟩
        have hK : p0e1.den E = 6 := by
          have := hf ((.eq p0e1 (.c 6)), true) (by simp)
          simpa only [eq_t, d_c] using this
        have hlt : E.i 3 < E.i 2 := by
          have := hf ((.lt (.v 3) (.v 2)), true) (by simp)
          simpa only [lt_t, d_v] using this
        have hsst : p0e48.den E = E.i 14 / 2 := by simp only [p0e48, d_c, d_v, d_ap, d_sli, d_slnil, d_bv, d_bc, d_mul, d_add, d_sub, d_wrap, d_tdiv, d_mx, hE, fnsf0, fnsf1, fnsf2, fnsf3, fnsf4, fnsf5, fnsf6, fnsf7, fnsf8, fnsf9, hhalf]
        have hcell0 : (SE.den E (p0e47)) = E.i 1 * 2 := by simp only [p0e0, p0e1, p0e2, p0e3, p0e4, p0e5, p0e6, p0e7, p0e8, p0e9, p0e10, p0e11, p0e12, p0e13, p0e14, p0e15, p0e16, p0e17, p0e18, p0e19, p0e20, p0e21, p0e22, p0e23, p0e24, p0e25, p0e26, p0e27, p0e28, p0e29, p0e30, p0e31, p0e32, p0e33, p0e34, p0e35, p0e36, p0e37, p0e38, p0e39, p0e40, p0e41, p0e42, p0e43, p0e44, p0e45, p0e46, p0e47, p0e48, p0e49, p0e50, p0e51, p0e52, p0e53, p0e54, d_c, d_v, d_ap, d_sli, d_slnil, d_bv, d_bc, d_mul, d_add, d_sub, d_wrap, d_tdiv, d_mx, hE, fnsf0, fnsf1, fnsf2, fnsf3, fnsf4, fnsf5, fnsf6, fnsf7, fnsf8, fnsf9]
        have hcell1 : (SE.den E (p0e48)) = E.i 14 / 2 := by simp only [p0e0, p0e1, p0e2, p0e3, p0e4, p0e5, p0e6, p0e7, p0e8, p0e9, p0e10, p0e11, p0e12, p0e13, p0e14, p0e15, p0e16, p0e17, p0e18, p0e19, p0e20, p0e21, p0e22, p0e23, p0e24, p0e25, p0e26, p0e27, p0e28, p0e29, p0e30, p0e31, p0e32, p0e33, p0e34, p0e35, p0e36, p0e37, p0e38, p0e39, p0e40, p0e41, p0e42, p0e43, p0e44, p0e45, p0e46, p0e47, p0e48, p0e49, p0e50, p0e51, p0e52, p0e53, p0e54, d_c, d_v, d_ap, d_sli, d_slnil, d_bv, d_bc, d_mul, d_add, d_sub, d_wrap, d_tdiv, d_mx, hE, fnsf0, fnsf1, fnsf2, fnsf3, fnsf4, fnsf5, fnsf6, fnsf7, fnsf8, fnsf9, hhalf]
        have hcell4 : p0e50.den E = pBudget (p0e3.den E) (pRate (E.i 1 * 2) (E.i 14 / 2)) (E.i 5) (E.i 6) := by simp only [p0e0, p0e1, p0e2, p0e3, p0e4, p0e5, p0e6, p0e7, p0e8, p0e9, p0e10, p0e11, p0e12, p0e13, p0e14, p0e15, p0e16, p0e17, p0e18, p0e19, p0e20, p0e21, p0e22, p0e23, p0e24, p0e25, p0e26, p0e27, p0e28, p0e29, p0e30, p0e31, p0e32, p0e33, p0e34, p0e35, p0e36, p0e37, p0e38, p0e39, p0e40, p0e41, p0e42, p0e43, p0e44, p0e45, p0e46, p0e47, p0e48, p0e49, p0e50, p0e51, p0e52, p0e53, p0e54, d_c, d_v, d_ap, d_sli, d_slnil, d_bv, d_bc, d_mul, d_add, d_sub, d_wrap, d_tdiv, d_mx, hE, fnsf0, fnsf1, fnsf2, fnsf3, fnsf4, fnsf5, fnsf6, fnsf7, fnsf8, fnsf9, hhalf]
        have hcell5 : p0e51.den E = pUntil (pRate (E.i 1 * 2) (E.i 14 / 2)) (E.i 5) (E.i 6) := by simp only [p0e0, p0e1, p0e2, p0e3, p0e4, p0e5, p0e6, p0e7, p0e8, p0e9, p0e10, p0e11, p0e12, p0e13, p0e14, p0e15, p0e16, p0e17, p0e18, p0e19, p0e20, p0e21, p0e22, p0e23, p0e24, p0e25, p0e26, p0e27, p0e28, p0e29, p0e30, p0e31, p0e32, p0e33, p0e34, p0e35, p0e36, p0e37, p0e38, p0e39, p0e40, p0e41, p0e42, p0e43, p0e44, p0e45, p0e46, p0e47, p0e48, p0e49, p0e50, p0e51, p0e52, p0e53, p0e54, d_c, d_v, d_ap, d_sli, d_slnil, d_bv, d_bc, d_mul, d_add, d_sub, d_wrap, d_tdiv, d_mx, hE, fnsf0, fnsf1, fnsf2, fnsf3, fnsf4, fnsf5, fnsf6, fnsf7, fnsf8, fnsf9, hhalf]
        refine ⟨⟨i + 1, fin7 hI (by omega) (hk0.trans hK) hk1 hk2 hk3 hk4 rfl rfl rfl rfl rfl (s' := ⟨E.i 12, E.i 11, (-1), E.i 1 * 2, E.i 14 / 2, E.i 5, E.i 6⟩) rfl (CS.ext rfl rfl rfl rfl hsst rfl rfl) (e := p0e0) (l := (.i p0e47 (.b (.lt p0e47 p0e48) (.b (.c false) (.b (.lt p0e5 p0e47) (.b (.le (.v 1) p0e50) (.i p0e51 .nil))))))) he0 rfl ?_⟩, fun b hb => ?_⟩
        · intro c hc
          match c, hc with
          | 0, _ => exact hcell0
          | 1, _ =>
            show b2i (decide (SE.den E (p0e47) < SE.den E (p0e48))) = b2i (decide (E.i 1 * 2 < E.i 14 / 2))
            first | rw [hcell0, hcell1] | rw [hcell0]
          | 2, _ =>
            exact recF (by show E.i 12 = -1; have := hf ((.eq (.v 12) (.c (-1))), true) (by simp); simpa only [eq_t, d_v, d_c] using this)
          | 3, _ =>
            show b2i (decide (p0e5.den E < SE.den E (p0e47))) = b2i (decide (p0e5.den E < E.i 1 * 2))
            rw [hcell0]
          | 4, _ =>
            show b2i (decide (E.i 1 ≤ p0e50.den E)) = b2i (decide (E.i 1 ≤ pBudget (p0e3.den E) (pRate (E.i 1 * 2) (E.i 14 / 2)) (E.i 5) (E.i 6)))
            rw [hcell4]
          | 5, _ => exact hcell5
        · obtain rfl := Option.some.inj hb
          show (E0.i 2 - (E.i 3 + 1)).toNat < _
          omega
      · -- p0x34
        intro hf
        skip
        simp only [facts_cons, facts_nil, lt_t, lt_f, le_t, le_f, eq_t, eq_f, and_true, d_c, d_v, d_bv] at hf
        have hs := hstep (by omega)
        obtain ⟨hs1, hs2⟩ := hs
        change (_ ∧ _) ∨ (_ ∧ E.i 14 ≤ 190000 ∧ E.i 13 = -1 ∧ E.i 15 = 4611686018427387903) ∨ (_ ∧ _) ∨ _ at hs2
        first
          | omega
          | (have r1 := pRate_ok (cw := E.i 14) (sst := E.i 15) k3
             have r2 := pRate_ok (cw := ackCw (E.i 14) (p0e5.den E) (E.i 1)) (sst := E.i 15) (ackCw_ok (by omega) (by omega))
             simp only [p0e0, p0e1, p0e2, p0e3, p0e4, p0e5, p0e6, p0e7, p0e8, p0e9, p0e10, p0e11, p0e12, p0e13, p0e14, p0e15, p0e16, p0e17, p0e18, p0e19, p0e20, p0e21, p0e22, p0e23, p0e24, p0e25, p0e26, p0e27, p0e28, p0e29, p0e30, p0e31, p0e32, p0e33, p0e34, p0e35, p0e36, p0e37, p0e38, p0e39, p0e40, p0e41, p0e42, p0e43, p0e44, p0e45, p0e46, p0e47, p0e48, p0e49, p0e50, p0e51, p0e52, p0e53, p0e54, d_c, d_v, d_ap, d_sli, d_slnil, d_bv, d_bc, d_mul, d_add, d_sub, d_wrap, d_tdiv, d_mx, hE, fnsf0, fnsf1, fnsf2, fnsf3, fnsf4, fnsf5, fnsf6, fnsf7, fnsf8, fnsf9] at hf r2
             omega)
          | (have r1 := pRate_ok (cw := E.i 14) (sst := E.i 15) k3
             simp only [p0e0, p0e1, p0e2, p0e3, p0e4, p0e5, p0e6, p0e7, p0e8, p0e9, p0e10, p0e11, p0e12, p0e13, p0e14, p0e15, p0e16, p0e17, p0e18, p0e19, p0e20, p0e21, p0e22, p0e23, p0e24, p0e25, p0e26, p0e27, p0e28, p0e29, p0e30, p0e31, p0e32, p0e33, p0e34, p0e35, p0e36, p0e37, p0e38, p0e39, p0e40, p0e41, p0e42, p0e43, p0e44, p0e45, p0e46, p0e47, p0e48, p0e49, p0e50, p0e51, p0e52, p0e53, p0e54, d_c, d_v, d_ap, d_sli, d_slnil, d_bv, d_bc, d_mul, d_add, d_sub, d_wrap, d_tdiv, d_mx, hE, fnsf0, fnsf1, fnsf2, fnsf3, fnsf4, fnsf5, fnsf6, fnsf7, fnsf8, fnsf9] at hf
             omega)
          | (have r0 := winR_ok (cw := E.i 14) (sz := E.i 1) k3 (by omega)
             have r1 := pRate_ok (cw := winR (E.i 14) (E.i 1)) (sst := winR (E.i 14) (E.i 1)) (by omega)
             simp only [p0e0, p0e1, p0e2, p0e3, p0e4, p0e5, p0e6, p0e7, p0e8, p0e9, p0e10, p0e11, p0e12, p0e13, p0e14, p0e15, p0e16, p0e17, p0e18, p0e19, p0e20, p0e21, p0e22, p0e23, p0e24, p0e25, p0e26, p0e27, p0e28, p0e29, p0e30, p0e31, p0e32, p0e33, p0e34, p0e35, p0e36, p0e37, p0e38, p0e39, p0e40, p0e41, p0e42, p0e43, p0e44, p0e45, p0e46, p0e47, p0e48, p0e49, p0e50, p0e51, p0e52, p0e53, p0e54, d_c, d_v, d_ap, d_sli, d_slnil, d_bv, d_bc, d_mul, d_add, d_sub, d_wrap, d_tdiv, d_mx, hE, fnsf0, fnsf1, fnsf2, fnsf3, fnsf4, fnsf5, fnsf6, fnsf7, fnsf8, fnsf9] at hf
             omega)
          | (have r0 := winC_ok (cw := E.i 14) (sz := E.i 1) k3 (by omega)
             have r1 := pRate_ok (cw := winC (E.i 14) (E.i 1)) (sst := winC (E.i 14) (E.i 1)) (by omega)
             simp only [p0e0, p0e1, p0e2, p0e3, p0e4, p0e5, p0e6, p0e7, p0e8, p0e9, p0e10, p0e11, p0e12, p0e13, p0e14, p0e15, p0e16, p0e17, p0e18, p0e19, p0e20, p0e21, p0e22, p0e23, p0e24, p0e25, p0e26, p0e27, p0e28, p0e29, p0e30, p0e31, p0e32, p0e33, p0e34, p0e35, p0e36, p0e37, p0e38, p0e39, p0e40, p0e41, p0e42, p0e43, p0e44, p0e45, p0e46, p0e47, p0e48, p0e49, p0e50, p0e51, p0e52, p0e53, p0e54, d_c, d_v, d_ap, d_sli, d_slnil, d_bv, d_bc, d_mul, d_add, d_sub, d_wrap, d_tdiv, d_mx, hE, fnsf0, fnsf1, fnsf2, fnsf3, fnsf4, fnsf5, fnsf6, fnsf7, fnsf8, fnsf9] at hf
             omega)
          | (have r1 := pRate_ok (cw := E.i 1 * 2) (sst := E.i 14 / 2) (by omega)
             simp only [p0e0, p0e1, p0e2, p0e3, p0e4, p0e5, p0e6, p0e7, p0e8, p0e9, p0e10, p0e11, p0e12, p0e13, p0e14, p0e15, p0e16, p0e17, p0e18, p0e19, p0e20, p0e21, p0e22, p0e23, p0e24, p0e25, p0e26, p0e27, p0e28, p0e29, p0e30, p0e31, p0e32, p0e33, p0e34, p0e35, p0e36, p0e37, p0e38, p0e39, p0e40, p0e41, p0e42, p0e43, p0e44, p0e45, p0e46, p0e47, p0e48, p0e49, p0e50, p0e51, p0e52, p0e53, p0e54, d_c, d_v, d_ap, d_sli, d_slnil, d_bv, d_bc, d_mul, d_add, d_sub, d_wrap, d_tdiv, d_mx, hE, fnsf0, fnsf1, fnsf2, fnsf3, fnsf4, fnsf5, fnsf6, fnsf7, fnsf8, fnsf9, hhalf] at hf
             omega)
      · -- p0x35
        intro hf
        skip
        simp only [facts_cons, facts_nil, lt_t, lt_f, le_t, le_f, eq_t, eq_f, and_true, d_c, d_v, d_bv] at hf
        have hs := hstep (by omega)
        obtain ⟨hs1, hs2⟩ := hs
        change (_ ∧ _) ∨ (_ ∧ E.i 14 ≤ 190000 ∧ E.i 13 = -1 ∧ E.i 15 = 4611686018427387903) ∨ (_ ∧ _) ∨ _ at hs2
        first
          | omega
          | (have r1 := pRate_ok (cw := E.i 14) (sst := E.i 15) k3
             have r2 := pRate_ok (cw := ackCw (E.i 14) (p0e5.den E) (E.i 1)) (sst := E.i 15) (ackCw_ok (by omega) (by omega))
             simp only [p0e0, p0e1, p0e2, p0e3, p0e4, p0e5, p0e6, p0e7, p0e8, p0e9, p0e10, p0e11, p0e12, p0e13, p0e14, p0e15, p0e16, p0e17, p0e18, p0e19, p0e20, p0e21, p0e22, p0e23, p0e24, p0e25, p0e26, p0e27, p0e28, p0e29, p0e30, p0e31, p0e32, p0e33, p0e34, p0e35, p0e36, p0e37, p0e38, p0e39, p0e40, p0e41, p0e42, p0e43, p0e44, p0e45, p0e46, p0e47, p0e48, p0e49, p0e50, p0e51, p0e52, p0e53, p0e54, d_c, d_v, d_ap, d_sli, d_slnil, d_bv, d_bc, d_mul, d_add, d_sub, d_wrap, d_tdiv, d_mx, hE, fnsf0, fnsf1, fnsf2, fnsf3, fnsf4, fnsf5, fnsf6, fnsf7, fnsf8, fnsf9] at hf r2
             omega)
          | (have r1 := pRate_ok (cw := E.i 14) (sst := E.i 15) k3
             simp only [p0e0, p0e1, p0e2, p0e3, p0e4, p0e5, p0e6, p0e7, p0e8, p0e9, p0e10, p0e11, p0e12, p0e13, p0e14, p0e15, p0e16, p0e17, p0e18, p0e19, p0e20, p0e21, p0e22, p0e23, p0e24, p0e25, p0e26, p0e27, p0e28, p0e29, p0e30, p0e31, p0e32, p0e33, p0e34, p0e35, p0e36, p0e37, p0e38, p0e39, p0e40, p0e41, p0e42, p0e43, p0e44, p0e45, p0e46, p0e47, p0e48, p0e49, p0e50, p0e51, p0e52, p0e53, p0e54, d_c, d_v, d_ap, d_sli, d_slnil, d_bv, d_bc, d_mul, d_add, d_sub, d_wrap, d_tdiv, d_mx, hE, fnsf0, fnsf1, fnsf2, fnsf3, fnsf4, fnsf5, fnsf6, fnsf7, fnsf8, fnsf9] at hf
             omega)
          | (have r0 := winR_ok (cw := E.i 14) (sz := E.i 1) k3 (by omega)
             have r1 := pRate_ok (cw := winR (E.i 14) (E.i 1)) (sst := winR (E.i 14) (E.i 1)) (by omega)
             simp only [p0e0, p0e1, p0e2, p0e3, p0e4, p0e5, p0e6, p0e7, p0e8, p0e9, p0e10, p0e11, p0e12, p0e13, p0e14, p0e15, p0e16, p0e17, p0e18, p0e19, p0e20, p0e21, p0e22, p0e23, p0e24, p0e25, p0e26, p0e27, p0e28, p0e29, p0e30, p0e31, p0e32, p0e33, p0e34, p0e35, p0e36, p0e37, p0e38, p0e39, p0e40, p0e41, p0e42, p0e43, p0e44, p0e45, p0e46, p0e47, p0e48, p0e49, p0e50, p0e51, p0e52, p0e53, p0e54, d_c, d_v, d_ap, d_sli, d_slnil, d_bv, d_bc, d_mul, d_add, d_sub, d_wrap, d_tdiv, d_mx, hE, fnsf0, fnsf1, fnsf2, fnsf3, fnsf4, fnsf5, fnsf6, fnsf7, fnsf8, fnsf9] at hf
             omega)
          | (have r0 := winC_ok (cw := E.i 14) (sz := E.i 1) k3 (by omega)
             have r1 := pRate_ok (cw := winC (E.i 14) (E.i 1)) (sst := winC (E.i 14) (E.i 1)) (by omega)
             simp only [p0e0, p0e1, p0e2, p0e3, p0e4, p0e5, p0e6, p0e7, p0e8, p0e9, p0e10, p0e11, p0e12, p0e13, p0e14, p0e15, p0e16, p0e17, p0e18, p0e19, p0e20, p0e21, p0e22, p0e23, p0e24, p0e25, p0e26, p0e27, p0e28, p0e29, p0e30, p0e31, p0e32, p0e33, p0e34, p0e35, p0e36, p0e37, p0e38, p0e39, p0e40, p0e41, p0e42, p0e43, p0e44, p0e45, p0e46, p0e47, p0e48, p0e49, p0e50, p0e51, p0e52, p0e53, p0e54, d_c, d_v, d_ap, d_sli, d_slnil, d_bv, d_bc, d_mul, d_add, d_sub, d_wrap, d_tdiv, d_mx, hE, fnsf0, fnsf1, fnsf2, fnsf3, fnsf4, fnsf5, fnsf6, fnsf7, fnsf8, fnsf9] at hf
             omega)
          | (have r1 := pRate_ok (cw := E.i 1 * 2) (sst := E.i 14 / 2) (by omega)
             simp only [p0e0, p0e1, p0e2, p0e3, p0e4, p0e5, p0e6, p0e7, p0e8, p0e9, p0e10, p0e11, p0e12, p0e13, p0e14, p0e15, p0e16, p0e17, p0e18, p0e19, p0e20, p0e21, p0e22, p0e23, p0e24, p0e25, p0e26, p0e27, p0e28, p0e29, p0e30, p0e31, p0e32, p0e33, p0e34, p0e35, p0e36, p0e37, p0e38, p0e39, p0e40, p0e41, p0e42, p0e43, p0e44, p0e45, p0e46, p0e47, p0e48, p0e49, p0e50, p0e51, p0e52, p0e53, p0e54, d_c, d_v, d_ap, d_sli, d_slnil, d_bv, d_bc, d_mul, d_add, d_sub, d_wrap, d_tdiv, d_mx, hE, fnsf0, fnsf1, fnsf2, fnsf3, fnsf4, fnsf5, fnsf6, fnsf7, fnsf8, fnsf9, hhalf] at hf
             omega)
      · -- p0x36
        intro hf
        refine ⟨⟨_, rfl, .inr ⟨rfl, rfl⟩⟩, fun o => ?_⟩
        have hK : p0e1.den E = 6 := by
          have := hf ((.eq p0e1 (.c 6)), true) (by simp)
          simpa only [eq_t, d_c] using this
        have hlt : E.i 3 < E.i 2 := by
          have := hf ((.lt (.v 3) (.v 2)), true) (by simp)
          simpa only [lt_t, d_v] using this
        have hsst : p0e48.den E = E.i 14 / 2 := by simp only [p0e48, d_c, d_v, d_ap, d_sli, d_slnil, d_bv, d_bc, d_mul, d_add, d_sub, d_wrap, d_tdiv, d_mx, hE, fnsf0, fnsf1, fnsf2, fnsf3, fnsf4, fnsf5, fnsf6, fnsf7, fnsf8, fnsf9, hhalf]
        have hcell0 : (SE.den E (p0e47)) = E.i 1 * 2 := by simp only [p0e0, p0e1, p0e2, p0e3, p0e4, p0e5, p0e6, p0e7, p0e8, p0e9, p0e10, p0e11, p0e12, p0e13, p0e14, p0e15, p0e16, p0e17, p0e18, p0e19, p0e20, p0e21, p0e22, p0e23, p0e24, p0e25, p0e26, p0e27, p0e28, p0e29, p0e30, p0e31, p0e32, p0e33, p0e34, p0e35, p0e36, p0e37, p0e38, p0e39, p0e40, p0e41, p0e42, p0e43, p0e44, p0e45, p0e46, p0e47, p0e48, p0e49, p0e50, p0e51, p0e52, p0e53, p0e54, d_c, d_v, d_ap, d_sli, d_slnil, d_bv, d_bc, d_mul, d_add, d_sub, d_wrap, d_tdiv, d_mx, hE, fnsf0, fnsf1, fnsf2, fnsf3, fnsf4, fnsf5, fnsf6, fnsf7, fnsf8, fnsf9]
        have hcell1 : (SE.den E (p0e48)) = E.i 14 / 2 := by simp only [p0e0, p0e1, p0e2, p0e3, p0e4, p0e5, p0e6, p0e7, p0e8, p0e9, p0e10, p0e11, p0e12, p0e13, p0e14, p0e15, p0e16, p0e17, p0e18, p0e19, p0e20, p0e21, p0e22, p0e23, p0e24, p0e25, p0e26, p0e27, p0e28, p0e29, p0e30, p0e31, p0e32, p0e33, p0e34, p0e35, p0e36, p0e37, p0e38, p0e39, p0e40, p0e41, p0e42, p0e43, p0e44, p0e45, p0e46, p0e47, p0e48, p0e49, p0e50, p0e51, p0e52, p0e53, p0e54, d_c, d_v, d_ap, d_sli, d_slnil, d_bv, d_bc, d_mul, d_add, d_sub, d_wrap, d_tdiv, d_mx, hE, fnsf0, fnsf1, fnsf2, fnsf3, fnsf4, fnsf5, fnsf6, fnsf7, fnsf8, fnsf9, hhalf]
        have hcell4 : p0e50.den E = pBudget (p0e3.den E) (pRate (E.i 1 * 2) (E.i 14 / 2)) (E.i 5) (E.i 6) := by simp only [p0e0, p0e1, p0e2, p0e3, p0e4, p0e5, p0e6, p0e7, p0e8, p0e9, p0e10, p0e11, p0e12, p0e13, p0e14, p0e15, p0e16, p0e17, p0e18, p0e19, p0e20, p0e21, p0e22, p0e23, p0e24, p0e25, p0e26, p0e27, p0e28, p0e29, p0e30, p0e31, p0e32, p0e33, p0e34, p0e35, p0e36, p0e37, p0e38, p0e39, p0e40, p0e41, p0e42, p0e43, p0e44, p0e45, p0e46, p0e47, p0e48, p0e49, p0e50, p0e51, p0e52, p0e53, p0e54, d_c, d_v, d_ap, d_sli, d_slnil, d_bv, d_bc, d_mul, d_add, d_sub, d_wrap, d_tdiv, d_mx, hE, fnsf0, fnsf1, fnsf2, fnsf3, fnsf4, fnsf5, fnsf6, fnsf7, fnsf8, fnsf9, hhalf]
        have hcell5 : p0e51.den E = pUntil (pRate (E.i 1 * 2) (E.i 14 / 2)) (E.i 5) (E.i 6) := by simp only [p0e0, p0e1, p0e2, p0e3, p0e4, p0e5, p0e6, p0e7, p0e8, p0e9, p0e10, p0e11, p0e12, p0e13, p0e14, p0e15, p0e16, p0e17, p0e18, p0e19, p0e20, p0e21, p0e22, p0e23, p0e24, p0e25, p0e26, p0e27, p0e28, p0e29, p0e30, p0e31, p0e32, p0e33, p0e34, p0e35, p0e36, p0e37, p0e38, p0e39, p0e40, p0e41, p0e42, p0e43, p0e44, p0e45, p0e46, p0e47, p0e48, p0e49, p0e50, p0e51, p0e52, p0e53, p0e54, d_c, d_v, d_ap, d_sli, d_slnil, d_bv, d_bc, d_mul, d_add, d_sub, d_wrap, d_tdiv, d_mx, hE, fnsf0, fnsf1, fnsf2, fnsf3, fnsf4, fnsf5, fnsf6, fnsf7, fnsf8, fnsf9, hhalf]
        refine ⟨⟨i + 1, fin7 hI (by omega) (hk0.trans hK) hk1 hk2 hk3 hk4 rfl rfl rfl rfl rfl (s' := ⟨E.i 12, E.i 11, (-1), E.i 1 * 2, E.i 14 / 2, E.i 5, E.i 6⟩) rfl (CS.ext rfl rfl rfl rfl hsst rfl rfl) (e := p0e0) (l := (.i p0e47 (.b (.lt p0e47 p0e48) (.b (.le (.v 12) (.c (-1))) (.b (.lt p0e5 p0e47) (.b (.le (.v 1) p0e50) (.i p0e51 .nil))))))) he0 rfl ?_⟩, fun b hb => ?_⟩
        · intro c hc
          match c, hc with
          | 0, _ => exact hcell0
          | 1, _ =>
            show b2i (decide (SE.den E (p0e47) < SE.den E (p0e48))) = b2i (decide (E.i 1 * 2 < E.i 14 / 2))
            first | rw [hcell0, hcell1] | rw [hcell0]
          | 2, _ =>
            exact recT (by show E.i 12 ≠ -1; have := hf ((.eq (.v 12) (.c (-1))), false) (by simp); simpa only [eq_f, d_v, d_c] using this)
          | 3, _ =>
            show b2i (decide (p0e5.den E < SE.den E (p0e47))) = b2i (decide (p0e5.den E < E.i 1 * 2))
            rw [hcell0]
          | 4, _ =>
            show b2i (decide (E.i 1 ≤ p0e50.den E)) = b2i (decide (E.i 1 ≤ pBudget (p0e3.den E) (pRate (E.i 1 * 2) (E.i 14 / 2)) (E.i 5) (E.i 6)))
            rw [hcell4]
          | 5, _ => exact hcell5
        · obtain rfl := Option.some.inj hb
          show (E0.i 2 - (E.i 3 + 1)).toNat < _
          omega
      · -- p0x37
        intro hf
        skip
        simp only [facts_cons, facts_nil, lt_t, lt_f, le_t, le_f, eq_t, eq_f, and_true, d_c, d_v, d_bv] at hf
        have hs := hstep (by omega)
        obtain ⟨hs1, hs2⟩ := hs
        change (_ ∧ _) ∨ (_ ∧ E.i 14 ≤ 190000 ∧ E.i 13 = -1 ∧ E.i 15 = 4611686018427387903) ∨ (_ ∧ _) ∨ _ at hs2
        first
          | omega
          | (have r1 := pRate_ok (cw := E.i 14) (sst := E.i 15) k3
             have r2 := pRate_ok (cw := ackCw (E.i 14) (p0e5.den E) (E.i 1)) (sst := E.i 15) (ackCw_ok (by omega) (by omega))
             simp only [p0e0, p0e1, p0e2, p0e3, p0e4, p0e5, p0e6, p0e7, p0e8, p0e9, p0e10, p0e11, p0e12, p0e13, p0e14, p0e15, p0e16, p0e17, p0e18, p0e19, p0e20, p0e21, p0e22, p0e23, p0e24, p0e25, p0e26, p0e27, p0e28, p0e29, p0e30, p0e31, p0e32, p0e33, p0e34, p0e35, p0e36, p0e37, p0e38, p0e39, p0e40, p0e41, p0e42, p0e43, p0e44, p0e45, p0e46, p0e47, p0e48, p0e49, p0e50, p0e51, p0e52, p0e53, p0e54, d_c, d_v, d_ap, d_sli, d_slnil, d_bv, d_bc, d_mul, d_add, d_sub, d_wrap, d_tdiv, d_mx, hE, fnsf0, fnsf1, fnsf2, fnsf3, fnsf4, fnsf5, fnsf6, fnsf7, fnsf8, fnsf9] at hf r2
             omega)
          | (have r1 := pRate_ok (cw := E.i 14) (sst := E.i 15) k3
             simp only [p0e0, p0e1, p0e2, p0e3, p0e4, p0e5, p0e6, p0e7, p0e8, p0e9, p0e10, p0e11, p0e12, p0e13, p0e14, p0e15, p0e16, p0e17, p0e18, p0e19, p0e20, p0e21, p0e22, p0e23, p0e24, p0e25, p0e26, p0e27, p0e28, p0e29, p0e30, p0e31, p0e32, p0e33, p0e34, p0e35, p0e36, p0e37, p0e38, p0e39, p0e40, p0e41, p0e42, p0e43, p0e44, p0e45, p0e46, p0e47, p0e48, p0e49, p0e50, p0e51, p0e52, p0e53, p0e54, d_c, d_v, d_ap, d_sli, d_slnil, d_bv, d_bc, d_mul, d_add, d_sub, d_wrap, d_tdiv, d_mx, hE, fnsf0, fnsf1, fnsf2, fnsf3, fnsf4, fnsf5, fnsf6, fnsf7, fnsf8, fnsf9] at hf
             omega)
          | (have r0 := winR_ok (cw := E.i 14) (sz := E.i 1) k3 (by omega)
             have r1 := pRate_ok (cw := winR (E.i 14) (E.i 1)) (sst := winR (E.i 14) (E.i 1)) (by omega)
             simp only [p0e0, p0e1, p0e2, p0e3, p0e4, p0e5, p0e6, p0e7, p0e8, p0e9, p0e10, p0e11, p0e12, p0e13, p0e14, p0e15, p0e16, p0e17, p0e18, p0e19, p0e20, p0e21, p0e22, p0e23, p0e24, p0e25, p0e26, p0e27, p0e28, p0e29, p0e30, p0e31, p0e32, p0e33, p0e34, p0e35, p0e36, p0e37, p0e38, p0e39, p0e40, p0e41, p0e42, p0e43, p0e44, p0e45, p0e46, p0e47, p0e48, p0e49, p0e50, p0e51, p0e52, p0e53, p0e54, d_c, d_v, d_ap, d_sli, d_slnil, d_bv, d_bc, d_mul, d_add, d_sub, d_wrap, d_tdiv, d_mx, hE, fnsf0, fnsf1, fnsf2, fnsf3, fnsf4, fnsf5, fnsf6, fnsf7, fnsf8, fnsf9] at hf
             omega)
          | (have r0 := winC_ok (cw := E.i 14) (sz := E.i 1) k3 (by omega)
             have r1 := pRate_ok (cw := winC (E.i 14) (E.i 1)) (sst := winC (E.i 14) (E.i 1)) (by omega)
             simp only [p0e0, p0e1, p0e2, p0e3, p0e4, p0e5, p0e6, p0e7, p0e8, p0e9, p0e10, p0e11, p0e12, p0e13, p0e14, p0e15, p0e16, p0e17, p0e18, p0e19, p0e20, p0e21, p0e22, p0e23, p0e24, p0e25, p0e26, p0e27, p0e28, p0e29, p0e30, p0e31, p0e32, p0e33, p0e34, p0e35, p0e36, p0e37, p0e38, p0e39, p0e40, p0e41, p0e42, p0e43, p0e44, p0e45, p0e46, p0e47, p0e48, p0e49, p0e50, p0e51, p0e52, p0e53, p0e54, d_c, d_v, d_ap, d_sli, d_slnil, d_bv, d_bc, d_mul, d_add, d_sub, d_wrap, d_tdiv, d_mx, hE, fnsf0, fnsf1, fnsf2, fnsf3, fnsf4, fnsf5, fnsf6, fnsf7, fnsf8, fnsf9] at hf
             omega)
          | (have r1 := pRate_ok (cw := E.i 1 * 2) (sst := E.i 14 / 2) (by omega)
             simp only [p0e0, p0e1, p0e2, p0e3, p0e4, p0e5, p0e6, p0e7, p0e8, p0e9, p0e10, p0e11, p0e12, p0e13, p0e14, p0e15, p0e16, p0e17, p0e18, p0e19, p0e20, p0e21, p0e22, p0e23, p0e24, p0e25, p0e26, p0e27, p0e28, p0e29, p0e30, p0e31, p0e32, p0e33, p0e34, p0e35, p0e36, p0e37, p0e38, p0e39, p0e40, p0e41, p0e42, p0e43, p0e44, p0e45, p0e46, p0e47, p0e48, p0e49, p0e50, p0e51, p0e52, p0e53, p0e54, d_c, d_v, d_ap, d_sli, d_slnil, d_bv, d_bc, d_mul, d_add, d_sub, d_wrap, d_tdiv, d_mx, hE, fnsf0, fnsf1, fnsf2, fnsf3, fnsf4, fnsf5, fnsf6, fnsf7, fnsf8, fnsf9, hhalf] at hf
             omega)
      · -- p0x38
        intro hf
        skip
        simp only [facts_cons, facts_nil, lt_t, lt_f, le_t, le_f, eq_t, eq_f, and_true, d_c, d_v, d_bv] at hf
        have hs := hstep (by omega)
        obtain ⟨hs1, hs2⟩ := hs
        change (_ ∧ _) ∨ (_ ∧ E.i 14 ≤ 190000 ∧ E.i 13 = -1 ∧ E.i 15 = 4611686018427387903) ∨ (_ ∧ _) ∨ _ at hs2
        first
          | omega
          | (have r1 := pRate_ok (cw := E.i 14) (sst := E.i 15) k3
             have r2 := pRate_ok (cw := ackCw (E.i 14) (p0e5.den E) (E.i 1)) (sst := E.i 15) (ackCw_ok (by omega) (by omega))
             simp only [p0e0, p0e1, p0e2, p0e3, p0e4, p0e5, p0e6, p0e7, p0e8, p0e9, p0e10, p0e11, p0e12, p0e13, p0e14, p0e15, p0e16, p0e17, p0e18, p0e19, p0e20, p0e21, p0e22, p0e23, p0e24, p0e25, p0e26, p0e27, p0e28, p0e29, p0e30, p0e31, p0e32, p0e33, p0e34, p0e35, p0e36, p0e37, p0e38, p0e39, p0e40, p0e41, p0e42, p0e43, p0e44, p0e45, p0e46, p0e47, p0e48, p0e49, p0e50, p0e51, p0e52, p0e53, p0e54, d_c, d_v, d_ap, d_sli, d_slnil, d_bv, d_bc, d_mul, d_add, d_sub, d_wrap, d_tdiv, d_mx, hE, fnsf0, fnsf1, fnsf2, fnsf3, fnsf4, fnsf5, fnsf6, fnsf7, fnsf8, fnsf9] at hf r2
             omega)
          | (have r1 := pRate_ok (cw := E.i 14) (sst := E.i 15) k3
             simp only [p0e0, p0e1, p0e2, p0e3, p0e4, p0e5, p0e6, p0e7, p0e8, p0e9, p0e10, p0e11, p0e12, p0e13, p0e14, p0e15, p0e16, p0e17, p0e18, p0e19, p0e20, p0e21, p0e22, p0e23, p0e24, p0e25, p0e26, p0e27, p0e28, p0e29, p0e30, p0e31, p0e32, p0e33, p0e34, p0e35, p0e36, p0e37, p0e38, p0e39, p0e40, p0e41, p0e42, p0e43, p0e44, p0e45, p0e46, p0e47, p0e48, p0e49, p0e50, p0e51, p0e52, p0e53, p0e54, d_c, d_v, d_ap, d_sli, d_slnil, d_bv, d_bc, d_mul, d_add, d_sub, d_wrap, d_tdiv, d_mx, hE, fnsf0, fnsf1, fnsf2, fnsf3, fnsf4, fnsf5, fnsf6, fnsf7, fnsf8, fnsf9] at hf
             omega)
          | (have r0 := winR_ok (cw := E.i 14) (sz := E.i 1) k3 (by omega)
             have r1 := pRate_ok (cw := winR (E.i 14) (E.i 1)) (sst := winR (E.i 14) (E.i 1)) (by omega)
             simp only [p0e0, p0e1, p0e2, p0e3, p0e4, p0e5, p0e6, p0e7, p0e8, p0e9, p0e10, p0e11, p0e12, p0e13, p0e14, p0e15, p0e16, p0e17, p0e18, p0e19, p0e20, p0e21, p0e22, p0e23, p0e24, p0e25, p0e26, p0e27, p0e28, p0e29, p0e30, p0e31, p0e32, p0e33, p0e34, p0e35, p0e36, p0e37, p0e38, p0e39, p0e40, p0e41, p0e42, p0e43, p0e44, p0e45, p0e46, p0e47, p0e48, p0e49, p0e50, p0e51, p0e52, p0e53, p0e54, d_c, d_v, d_ap, d_sli, d_slnil, d_bv, d_bc, d_mul, d_add, d_sub, d_wrap, d_tdiv, d_mx, hE, fnsf0, fnsf1, fnsf2, fnsf3, fnsf4, fnsf5, fnsf6, fnsf7, fnsf8, fnsf9] at hf
             omega)
          | (have r0 := winC_ok (cw := E.i 14) (sz := E.i 1) k3 (by omega)
             have r1 := pRate_ok (cw := winC (E.i 14) (E.i 1)) (sst := winC (E.i 14) (E.i 1)) (by omega)
             simp only [p0e0, p0e1, p0e2, p0e3, p0e4, p0e5, p0e6, p0e7, p0e8, p0e9, p0e10, p0e11, p0e12, p0e13, p0e14, p0e15, p0e16, p0e17, p0e18, p0e19, p0e20, p0e21, p0e22, p0e23, p0e24, p0e25, p0e26, p0e27, p0e28, p0e29, p0e30, p0e31, p0e32, p0e33, p0e34, p0e35, p0e36, p0e37, p0e38, p0e39, p0e40, p0e41, p0e42, p0e43, p0e44, p0e45, p0e46, p0e47, p0e48, p0e49, p0e50, p0e51, p0e52, p0e53, p0e54, d_c, d_v, d_ap, d_sli, d_slnil, d_bv, d_bc, d_mul, d_add, d_sub, d_wrap, d_tdiv, d_mx, hE, fnsf0, fnsf1, fnsf2, fnsf3, fnsf4, fnsf5, fnsf6, fnsf7, fnsf8, fnsf9] at hf
             omega)
          | (have r1 := pRate_ok (cw := E.i 1 * 2) (sst := E.i 14 / 2) (by omega)
             simp only [p0e0, p0e1, p0e2, p0e3, p0e4, p0e5, p0e6, p0e7, p0e8, p0e9, p0e10, p0e11, p0e12, p0e13, p0e14, p0e15, p0e16, p0e17, p0e18, p0e19, p0e20, p0e21, p0e22, p0e23, p0e24, p0e25, p0e26, p0e27, p0e28, p0e29, p0e30, p0e31, p0e32, p0e33, p0e34, p0e35, p0e36, p0e37, p0e38, p0e39, p0e40, p0e41, p0e42, p0e43, p0e44, p0e45, p0e46, p0e47, p0e48, p0e49, p0e50, p0e51, p0e52, p0e53, p0e54, d_c, d_v, d_ap, d_sli, d_slnil, d_bv, d_bc, d_mul, d_add, d_sub, d_wrap, d_tdiv, d_mx, hE, fnsf0, fnsf1, fnsf2, fnsf3, fnsf4, fnsf5, fnsf6, fnsf7, fnsf8, fnsf9, hhalf] at hf
             omega)
      · -- p0x39
        intro hf
        exfalso
        simp only [facts_cons, facts_nil, lt_t, lt_f, le_t, le_f, eq_t, eq_f, and_true, d_c, d_v, d_bv] at hf
        have hs := hstep (by omega)
        obtain ⟨hs1, hs2⟩ := hs
        change (_ ∧ _) ∨ (_ ∧ E.i 14 ≤ 190000 ∧ E.i 13 = -1 ∧ E.i 15 = 4611686018427387903) ∨ (_ ∧ _) ∨ _ at hs2
        first
          | omega
          | (have r1 := pRate_ok (cw := E.i 14) (sst := E.i 15) k3
             have r2 := pRate_ok (cw := ackCw (E.i 14) (p0e5.den E) (E.i 1)) (sst := E.i 15) (ackCw_ok (by omega) (by omega))
             simp only [p0e0, p0e1, p0e2, p0e3, p0e4, p0e5, p0e6, p0e7, p0e8, p0e9, p0e10, p0e11, p0e12, p0e13, p0e14, p0e15, p0e16, p0e17, p0e18, p0e19, p0e20, p0e21, p0e22, p0e23, p0e24, p0e25, p0e26, p0e27, p0e28, p0e29, p0e30, p0e31, p0e32, p0e33, p0e34, p0e35, p0e36, p0e37, p0e38, p0e39, p0e40, p0e41, p0e42, p0e43, p0e44, p0e45, p0e46, p0e47, p0e48, p0e49, p0e50, p0e51, p0e52, p0e53, p0e54, d_c, d_v, d_ap, d_sli, d_slnil, d_bv, d_bc, d_mul, d_add, d_sub, d_wrap, d_tdiv, d_mx, hE, fnsf0, fnsf1, fnsf2, fnsf3, fnsf4, fnsf5, fnsf6, fnsf7, fnsf8, fnsf9] at hf r2
             omega)
          | (have r1 := pRate_ok (cw := E.i 14) (sst := E.i 15) k3
             simp only [p0e0, p0e1, p0e2, p0e3, p0e4, p0e5, p0e6, p0e7, p0e8, p0e9, p0e10, p0e11, p0e12, p0e13, p0e14, p0e15, p0e16, p0e17, p0e18, p0e19, p0e20, p0e21, p0e22, p0e23, p0e24, p0e25, p0e26, p0e27, p0e28, p0e29, p0e30, p0e31, p0e32, p0e33, p0e34, p0e35, p0e36, p0e37, p0e38, p0e39, p0e40, p0e41, p0e42, p0e43, p0e44, p0e45, p0e46, p0e47, p0e48, p0e49, p0e50, p0e51, p0e52, p0e53, p0e54, d_c, d_v, d_ap, d_sli, d_slnil, d_bv, d_bc, d_mul, d_add, d_sub, d_wrap, d_tdiv, d_mx, hE, fnsf0, fnsf1, fnsf2, fnsf3, fnsf4, fnsf5, fnsf6, fnsf7, fnsf8, fnsf9] at hf
             omega)
          | (have r0 := winR_ok (cw := E.i 14) (sz := E.i 1) k3 (by omega)
             have r1 := pRate_ok (cw := winR (E.i 14) (E.i 1)) (sst := winR (E.i 14) (E.i 1)) (by omega)
             simp only [p0e0, p0e1, p0e2, p0e3, p0e4, p0e5, p0e6, p0e7, p0e8, p0e9, p0e10, p0e11, p0e12, p0e13, p0e14, p0e15, p0e16, p0e17, p0e18, p0e19, p0e20, p0e21, p0e22, p0e23, p0e24, p0e25, p0e26, p0e27, p0e28, p0e29, p0e30, p0e31, p0e32, p0e33, p0e34, p0e35, p0e36, p0e37, p0e38, p0e39, p0e40, p0e41, p0e42, p0e43, p0e44, p0e45, p0e46, p0e47, p0e48, p0e49, p0e50, p0e51, p0e52, p0e53, p0e54, d_c, d_v, d_ap, d_sli, d_slnil, d_bv, d_bc, d_mul, d_add, d_sub, d_wrap, d_tdiv, d_mx, hE, fnsf0, fnsf1, fnsf2, fnsf3, fnsf4, fnsf5, fnsf6, fnsf7, fnsf8, fnsf9] at hf
             omega)
          | (have r0 := winC_ok (cw := E.i 14) (sz := E.i 1) k3 (by omega)
             have r1 := pRate_ok (cw := winC (E.i 14) (E.i 1)) (sst := winC (E.i 14) (E.i 1)) (by omega)
             simp only [p0e0, p0e1, p0e2, p0e3, p0e4, p0e5, p0e6, p0e7, p0e8, p0e9, p0e10, p0e11, p0e12, p0e13, p0e14, p0e15, p0e16, p0e17, p0e18, p0e19, p0e20, p0e21, p0e22, p0e23, p0e24, p0e25, p0e26, p0e27, p0e28, p0e29, p0e30, p0e31, p0e32, p0e33, p0e34, p0e35, p0e36, p0e37, p0e38, p0e39, p0e40, p0e41, p0e42, p0e43, p0e44, p0e45, p0e46, p0e47, p0e48, p0e49, p0e50, p0e51, p0e52, p0e53, p0e54, d_c, d_v, d_ap, d_sli, d_slnil, d_bv, d_bc, d_mul, d_add, d_sub, d_wrap, d_tdiv, d_mx, hE, fnsf0, fnsf1, fnsf2, fnsf3, fnsf4, fnsf5, fnsf6, fnsf7, fnsf8, fnsf9] at hf
             omega)
          | (have r1 := pRate_ok (cw := E.i 1 * 2) (sst := E.i 14 / 2) (by omega)
             simp only [p0e0, p0e1, p0e2, p0e3, p0e4, p0e5, p0e6, p0e7, p0e8, p0e9, p0e10, p0e11, p0e12, p0e13, p0e14, p0e15, p0e16, p0e17, p0e18, p0e19, p0e20, p0e21, p0e22, p0e23, p0e24, p0e25, p0e26, p0e27, p0e28, p0e29, p0e30, p0e31, p0e32, p0e33, p0e34, p0e35, p0e36, p0e37, p0e38, p0e39, p0e40, p0e41, p0e42, p0e43, p0e44, p0e45, p0e46, p0e47, p0e48, p0e49, p0e50, p0e51, p0e52, p0e53, p0e54, d_c, d_v, d_ap, d_sli, d_slnil, d_bv, d_bc, d_mul, d_add, d_sub, d_wrap, d_tdiv, d_mx, hE, fnsf0, fnsf1, fnsf2, fnsf3, fnsf4, fnsf5, fnsf6, fnsf7, fnsf8, fnsf9, hhalf] at hf
             omega)
      · -- p0x40
        intro hf
        skip
        simp only [facts_cons, facts_nil, lt_t, lt_f, le_t, le_f, eq_t, eq_f, and_true, d_c, d_v, d_bv] at hf
        have hs := hstep (by omega)
        obtain ⟨hs1, hs2⟩ := hs
        change (_ ∧ _) ∨ (_ ∧ E.i 14 ≤ 190000 ∧ E.i 13 = -1 ∧ E.i 15 = 4611686018427387903) ∨ (_ ∧ _) ∨ _ at hs2
        first
          | omega
          | (have r1 := pRate_ok (cw := E.i 14) (sst := E.i 15) k3
             have r2 := pRate_ok (cw := ackCw (E.i 14) (p0e5.den E) (E.i 1)) (sst := E.i 15) (ackCw_ok (by omega) (by omega))
             simp only [p0e0, p0e1, p0e2, p0e3, p0e4, p0e5, p0e6, p0e7, p0e8, p0e9, p0e10, p0e11, p0e12, p0e13, p0e14, p0e15, p0e16, p0e17, p0e18, p0e19, p0e20, p0e21, p0e22, p0e23, p0e24, p0e25, p0e26, p0e27, p0e28, p0e29, p0e30, p0e31, p0e32, p0e33, p0e34, p0e35, p0e36, p0e37, p0e38, p0e39, p0e40, p0e41, p0e42, p0e43, p0e44, p0e45, p0e46, p0e47, p0e48, p0e49, p0e50, p0e51, p0e52, p0e53, p0e54, d_c, d_v, d_ap, d_sli, d_slnil, d_bv, d_bc, d_mul, d_add, d_sub, d_wrap, d_tdiv, d_mx, hE, fnsf0, fnsf1, fnsf2, fnsf3, fnsf4, fnsf5, fnsf6, fnsf7, fnsf8, fnsf9] at hf r2
             omega)
          | (have r1 := pRate_ok (cw := E.i 14) (sst := E.i 15) k3
             simp only [p0e0, p0e1, p0e2, p0e3, p0e4, p0e5, p0e6, p0e7, p0e8, p0e9, p0e10, p0e11, p0e12, p0e13, p0e14, p0e15, p0e16, p0e17, p0e18, p0e19, p0e20, p0e21, p0e22, p0e23, p0e24, p0e25, p0e26, p0e27, p0e28, p0e29, p0e30, p0e31, p0e32, p0e33, p0e34, p0e35, p0e36, p0e37, p0e38, p0e39, p0e40, p0e41, p0e42, p0e43, p0e44, p0e45, p0e46, p0e47, p0e48, p0e49, p0e50, p0e51, p0e52, p0e53, p0e54, d_c, d_v, d_ap, d_sli, d_slnil, d_bv, d_bc, d_mul, d_add, d_sub, d_wrap, d_tdiv, d_mx, hE, fnsf0, fnsf1, fnsf2, fnsf3, fnsf4, fnsf5, fnsf6, fnsf7, fnsf8, fnsf9] at hf
             omega)
          | (have r0 := winR_ok (cw := E.i 14) (sz := E.i 1) k3 (by omega)
             have r1 := pRate_ok (cw := winR (E.i 14) (E.i 1)) (sst := winR (E.i 14) (E.i 1)) (by omega)
             simp only [p0e0, p0e1, p0e2, p0e3, p0e4, p0e5, p0e6, p0e7, p0e8, p0e9, p0e10, p0e11, p0e12, p0e13, p0e14, p0e15, p0e16, p0e17, p0e18, p0e19, p0e20, p0e21, p0e22, p0e23, p0e24, p0e25, p0e26, p0e27, p0e28, p0e29, p0e30, p0e31, p0e32, p0e33, p0e34, p0e35, p0e36, p0e37, p0e38, p0e39, p0e40, p0e41, p0e42, p0e43, p0e44, p0e45, p0e46, p0e47, p0e48, p0e49, p0e50, p0e51, p0e52, p0e53, p0e54, d_c, d_v, d_ap, d_sli, d_slnil, d_bv, d_bc, d_mul, d_add, d_sub, d_wrap, d_tdiv, d_mx, hE, fnsf0, fnsf1, fnsf2, fnsf3, fnsf4, fnsf5, fnsf6, fnsf7, fnsf8, fnsf9] at hf
             omega)
          | (have r0 := winC_ok (cw := E.i 14) (sz := E.i 1) k3 (by omega)
             have r1 := pRate_ok (cw := winC (E.i 14) (E.i 1)) (sst := winC (E.i 14) (E.i 1)) (by omega)
             simp only [p0e0, p0e1, p0e2, p0e3, p0e4, p0e5, p0e6, p0e7, p0e8, p0e9, p0e10, p0e11, p0e12, p0e13, p0e14, p0e15, p0e16, p0e17, p0e18, p0e19, p0e20, p0e21, p0e22, p0e23, p0e24, p0e25, p0e26, p0e27, p0e28, p0e29, p0e30, p0e31, p0e32, p0e33, p0e34, p0e35, p0e36, p0e37, p0e38, p0e39, p0e40, p0e41, p0e42, p0e43, p0e44, p0e45, p0e46, p0e47, p0e48, p0e49, p0e50, p0e51, p0e52, p0e53, p0e54, d_c, d_v, d_ap, d_sli, d_slnil, d_bv, d_bc, d_mul, d_add, d_sub, d_wrap, d_tdiv, d_mx, hE, fnsf0, fnsf1, fnsf2, fnsf3, fnsf4, fnsf5, fnsf6, fnsf7, fnsf8, fnsf9] at hf
             omega)
          | (have r1 := pRate_ok (cw := E.i 1 * 2) (sst := E.i 14 / 2) (by omega)
             simp only [p0e0, p0e1, p0e2, p0e3, p0e4, p0e5, p0e6, p0e7, p0e8, p0e9, p0e10, p0e11, p0e12, p0e13, p0e14, p0e15, p0e16, p0e17, p0e18, p0e19, p0e20, p0e21, p0e22, p0e23, p0e24, p0e25, p0e26, p0e27, p0e28, p0e29, p0e30, p0e31, p0e32, p0e33, p0e34, p0e35, p0e36, p0e37, p0e38, p0e39, p0e40, p0e41, p0e42, p0e43, p0e44, p0e45, p0e46, p0e47, p0e48, p0e49, p0e50, p0e51, p0e52, p0e53, p0e54, d_c, d_v, d_ap, d_sli, d_slnil, d_bv, d_bc, d_mul, d_add, d_sub, d_wrap, d_tdiv, d_mx, hE, fnsf0, fnsf1, fnsf2, fnsf3, fnsf4, fnsf5, fnsf6, fnsf7, fnsf8, fnsf9, hhalf] at hf
             omega)
      · -- p0x41
        intro hf
        skip
        simp only [facts_cons, facts_nil, lt_t, lt_f, le_t, le_f, eq_t, eq_f, and_true, d_c, d_v, d_bv] at hf
        have hs := hstep (by omega)
        obtain ⟨hs1, hs2⟩ := hs
        change (_ ∧ _) ∨ (_ ∧ E.i 14 ≤ 190000 ∧ E.i 13 = -1 ∧ E.i 15 = 4611686018427387903) ∨ (_ ∧ _) ∨ _ at hs2
        first
          | omega
          | (have r1 := pRate_ok (cw := E.i 14) (sst := E.i 15) k3
             have r2 := pRate_ok (cw := ackCw (E.i 14) (p0e5.den E) (E.i 1)) (sst := E.i 15) (ackCw_ok (by omega) (by omega))
             simp only [p0e0, p0e1, p0e2, p0e3, p0e4, p0e5, p0e6, p0e7, p0e8, p0e9, p0e10, p0e11, p0e12, p0e13, p0e14, p0e15, p0e16, p0e17, p0e18, p0e19, p0e20, p0e21, p0e22, p0e23, p0e24, p0e25, p0e26, p0e27, p0e28, p0e29, p0e30, p0e31, p0e32, p0e33, p0e34, p0e35, p0e36, p0e37, p0e38, p0e39, p0e40, p0e41, p0e42, p0e43, p0e44, p0e45, p0e46, p0e47, p0e48, p0e49, p0e50, p0e51, p0e52, p0e53, p0e54, d_c, d_v, d_ap, d_sli, d_slnil, d_bv, d_bc, d_mul, d_add, d_sub, d_wrap, d_tdiv, d_mx, hE, fnsf0, fnsf1, fnsf2, fnsf3, fnsf4, fnsf5, fnsf6, fnsf7, fnsf8, fnsf9] at hf r2
             omega)
          | (have r1 := pRate_ok (cw := E.i 14) (sst := E.i 15) k3
             simp only [p0e0, p0e1, p0e2, p0e3, p0e4, p0e5, p0e6, p0e7, p0e8, p0e9, p0e10, p0e11, p0e12, p0e13, p0e14, p0e15, p0e16, p0e17, p0e18, p0e19, p0e20, p0e21, p0e22, p0e23, p0e24, p0e25, p0e26, p0e27, p0e28, p0e29, p0e30, p0e31, p0e32, p0e33, p0e34, p0e35, p0e36, p0e37, p0e38, p0e39, p0e40, p0e41, p0e42, p0e43, p0e44, p0e45, p0e46, p0e47, p0e48, p0e49, p0e50, p0e51, p0e52, p0e53, p0e54, d_c, d_v, d_ap, d_sli, d_slnil, d_bv, d_bc, d_mul, d_add, d_sub, d_wrap, d_tdiv, d_mx, hE, fnsf0, fnsf1, fnsf2, fnsf3, fnsf4, fnsf5, fnsf6, fnsf7, fnsf8, fnsf9] at hf
             omega)
          | (have r0 := winR_ok (cw := E.i 14) (sz := E.i 1) k3 (by omega)
             have r1 := pRate_ok (cw := winR (E.i 14) (E.i 1)) (sst := winR (E.i 14) (E.i 1)) (by omega)
             simp only [p0e0, p0e1, p0e2, p0e3, p0e4, p0e5, p0e6, p0e7, p0e8, p0e9, p0e10, p0e11, p0e12, p0e13, p0e14, p0e15, p0e16, p0e17, p0e18, p0e19, p0e20, p0e21, p0e22, p0e23, p0e24, p0e25, p0e26, p0e27, p0e28, p0e29, p0e30, p0e31, p0e32, p0e33, p0e34, p0e35, p0e36, p0e37, p0e38, p0e39, p0e40, p0e41, p0e42, p0e43, p0e44, p0e45, p0e46, p0e47, p0e48, p0e49, p0e50, p0e51, p0e52, p0e53, p0e54, d_c, d_v, d_ap, d_sli, d_slnil, d_bv, d_bc, d_mul, d_add, d_sub, d_wrap, d_tdiv, d_mx, hE, fnsf0, fnsf1, fnsf2, fnsf3, fnsf4, fnsf5, fnsf6, fnsf7, fnsf8, fnsf9] at hf
             omega)
          | (have r0 := winC_ok (cw := E.i 14) (sz := E.i 1) k3 (by omega)
             have r1 := pRate_ok (cw := winC (E.i 14) (E.i 1)) (sst := winC (E.i 14) (E.i 1)) (by omega)
             simp only [p0e0, p0e1, p0e2, p0e3, p0e4, p0e5, p0e6, p0e7, p0e8, p0e9, p0e10, p0e11, p0e12, p0e13, p0e14, p0e15, p0e16, p0e17, p0e18, p0e19, p0e20, p0e21, p0e22, p0e23, p0e24, p0e25, p0e26, p0e27, p0e28, p0e29, p0e30, p0e31, p0e32, p0e33, p0e34, p0e35, p0e36, p0e37, p0e38, p0e39, p0e40, p0e41, p0e42, p0e43, p0e44, p0e45, p0e46, p0e47, p0e48, p0e49, p0e50, p0e51, p0e52, p0e53, p0e54, d_c, d_v, d_ap, d_sli, d_slnil, d_bv, d_bc, d_mul, d_add, d_sub, d_wrap, d_tdiv, d_mx, hE, fnsf0, fnsf1, fnsf2, fnsf3, fnsf4, fnsf5, fnsf6, fnsf7, fnsf8, fnsf9] at hf
             omega)
          | (have r1 := pRate_ok (cw := E.i 1 * 2) (sst := E.i 14 / 2) (by omega)
             simp only [p0e0, p0e1, p0e2, p0e3, p0e4, p0e5, p0e6, p0e7, p0e8, p0e9, p0e10, p0e11, p0e12, p0e13, p0e14, p0e15, p0e16, p0e17, p0e18, p0e19, p0e20, p0e21, p0e22, p0e23, p0e24, p0e25, p0e26, p0e27, p0e28, p0e29, p0e30, p0e31, p0e32, p0e33, p0e34, p0e35, p0e36, p0e37, p0e38, p0e39, p0e40, p0e41, p0e42, p0e43, p0e44, p0e45, p0e46, p0e47, p0e48, p0e49, p0e50, p0e51, p0e52, p0e53, p0e54, d_c, d_v, d_ap, d_sli, d_slnil, d_bv, d_bc, d_mul, d_add, d_sub, d_wrap, d_tdiv, d_mx, hE, fnsf0, fnsf1, fnsf2, fnsf3, fnsf4, fnsf5, fnsf6, fnsf7, fnsf8, fnsf9, hhalf] at hf
             omega)
      · -- p0x42
        intro hf
        exfalso
        simp only [facts_cons, facts_nil, lt_t, lt_f, le_t, le_f, eq_t, eq_f, and_true, d_c, d_v, d_bv] at hf
        have hs := hstep (by omega)
        obtain ⟨hs1, hs2⟩ := hs
        change (_ ∧ _) ∨ (_ ∧ E.i 14 ≤ 190000 ∧ E.i 13 = -1 ∧ E.i 15 = 4611686018427387903) ∨ (_ ∧ _) ∨ _ at hs2
        first
          | omega
          | (have r1 := pRate_ok (cw := E.i 14) (sst := E.i 15) k3
             have r2 := pRate_ok (cw := ackCw (E.i 14) (p0e5.den E) (E.i 1)) (sst := E.i 15) (ackCw_ok (by omega) (by omega))
             simp only [p0e0, p0e1, p0e2, p0e3, p0e4, p0e5, p0e6, p0e7, p0e8, p0e9, p0e10, p0e11, p0e12, p0e13, p0e14, p0e15, p0e16, p0e17, p0e18, p0e19, p0e20, p0e21, p0e22, p0e23, p0e24, p0e25, p0e26, p0e27, p0e28, p0e29, p0e30, p0e31, p0e32, p0e33, p0e34, p0e35, p0e36, p0e37, p0e38, p0e39, p0e40, p0e41, p0e42, p0e43, p0e44, p0e45, p0e46, p0e47, p0e48, p0e49, p0e50, p0e51, p0e52, p0e53, p0e54, d_c, d_v, d_ap, d_sli, d_slnil, d_bv, d_bc, d_mul, d_add, d_sub, d_wrap, d_tdiv, d_mx, hE, fnsf0, fnsf1, fnsf2, fnsf3, fnsf4, fnsf5, fnsf6, fnsf7, fnsf8, fnsf9] at hf r2
             omega)
          | (have r1 := pRate_ok (cw := E.i 14) (sst := E.i 15) k3
             simp only [p0e0, p0e1, p0e2, p0e3, p0e4, p0e5, p0e6, p0e7, p0e8, p0e9, p0e10, p0e11, p0e12, p0e13, p0e14, p0e15, p0e16, p0e17, p0e18, p0e19, p0e20, p0e21, p0e22, p0e23, p0e24, p0e25, p0e26, p0e27, p0e28, p0e29, p0e30, p0e31, p0e32, p0e33, p0e34, p0e35, p0e36, p0e37, p0e38, p0e39, p0e40, p0e41, p0e42, p0e43, p0e44, p0e45, p0e46, p0e47, p0e48, p0e49, p0e50, p0e51, p0e52, p0e53, p0e54, d_c, d_v, d_ap, d_sli, d_slnil, d_bv, d_bc, d_mul, d_add, d_sub, d_wrap, d_tdiv, d_mx, hE, fnsf0, fnsf1, fnsf2, fnsf3, fnsf4, fnsf5, fnsf6, fnsf7, fnsf8, fnsf9] at hf
             omega)
          | (have r0 := winR_ok (cw := E.i 14) (sz := E.i 1) k3 (by omega)
             have r1 := pRate_ok (cw := winR (E.i 14) (E.i 1)) (sst := winR (E.i 14) (E.i 1)) (by omega)
             simp only [p0e0, p0e1, p0e2, p0e3, p0e4, p0e5, p0e6, p0e7, p0e8, p0e9, p0e10, p0e11, p0e12, p0e13, p0e14, p0e15, p0e16, p0e17, p0e18, p0e19, p0e20, p0e21, p0e22, p0e23, p0e24, p0e25, p0e26, p0e27, p0e28, p0e29, p0e30, p0e31, p0e32, p0e33, p0e34, p0e35, p0e36, p0e37, p0e38, p0e39, p0e40, p0e41, p0e42, p0e43, p0e44, p0e45, p0e46, p0e47, p0e48, p0e49, p0e50, p0e51, p0e52, p0e53, p0e54, d_c, d_v, d_ap, d_sli, d_slnil, d_bv, d_bc, d_mul, d_add, d_sub, d_wrap, d_tdiv, d_mx, hE, fnsf0, fnsf1, fnsf2, fnsf3, fnsf4, fnsf5, fnsf6, fnsf7, fnsf8, fnsf9] at hf
             omega)
          | (have r0 := winC_ok (cw := E.i 14) (sz := E.i 1) k3 (by omega)
             have r1 := pRate_ok (cw := winC (E.i 14) (E.i 1)) (sst := winC (E.i 14) (E.i 1)) (by omega)
             simp only [p0e0, p0e1, p0e2, p0e3, p0e4, p0e5, p0e6, p0e7, p0e8, p0e9, p0e10, p0e11, p0e12, p0e13, p0e14, p0e15, p0e16, p0e17, p0e18, p0e19, p0e20, p0e21, p0e22, p0e23, p0e24, p0e25, p0e26, p0e27, p0e28, p0e29, p0e30, p0e31, p0e32, p0e33, p0e34, p0e35, p0e36, p0e37, p0e38, p0e39, p0e40, p0e41, p0e42, p0e43, p0e44, p0e45, p0e46, p0e47, p0e48, p0e49, p0e50, p0e51, p0e52, p0e53, p0e54, d_c, d_v, d_ap, d_sli, d_slnil, d_bv, d_bc, d_mul, d_add, d_sub, d_wrap, d_tdiv, d_mx, hE, fnsf0, fnsf1, fnsf2, fnsf3, fnsf4, fnsf5, fnsf6, fnsf7, fnsf8, fnsf9] at hf
             omega)
          | (have r1 := pRate_ok (cw := E.i 1 * 2) (sst := E.i 14 / 2) (by omega)
             simp only [p0e0, p0e1, p0e2, p0e3, p0e4, p0e5, p0e6, p0e7, p0e8, p0e9, p0e10, p0e11, p0e12, p0e13, p0e14, p0e15, p0e16, p0e17, p0e18, p0e19, p0e20, p0e21, p0e22, p0e23, p0e24, p0e25, p0e26, p0e27, p0e28, p0e29, p0e30, p0e31, p0e32, p0e33, p0e34, p0e35, p0e36, p0e37, p0e38, p0e39, p0e40, p0e41, p0e42, p0e43, p0e44, p0e45, p0e46, p0e47, p0e48, p0e49, p0e50, p0e51, p0e52, p0e53, p0e54, d_c, d_v, d_ap, d_sli, d_slnil, d_bv, d_bc, d_mul, d_add, d_sub, d_wrap, d_tdiv, d_mx, hE, fnsf0, fnsf1, fnsf2, fnsf3, fnsf4, fnsf5, fnsf6, fnsf7, fnsf8, fnsf9, hhalf] at hf
             omega)
      · -- p0x43
        intro hf
        skip
        simp only [facts_cons, facts_nil, lt_t, lt_f, le_t, le_f, eq_t, eq_f, and_true, d_c, d_v, d_bv] at hf
        have hs := hstep (by omega)
        obtain ⟨hs1, hs2⟩ := hs
        change (_ ∧ _) ∨ (_ ∧ E.i 14 ≤ 190000 ∧ E.i 13 = -1 ∧ E.i 15 = 4611686018427387903) ∨ (_ ∧ _) ∨ _ at hs2
        first
          | omega
          | (have r1 := pRate_ok (cw := E.i 14) (sst := E.i 15) k3
             have r2 := pRate_ok (cw := ackCw (E.i 14) (p0e5.den E) (E.i 1)) (sst := E.i 15) (ackCw_ok (by omega) (by omega))
             simp only [p0e0, p0e1, p0e2, p0e3, p0e4, p0e5, p0e6, p0e7, p0e8, p0e9, p0e10, p0e11, p0e12, p0e13, p0e14, p0e15, p0e16, p0e17, p0e18, p0e19, p0e20, p0e21, p0e22, p0e23, p0e24, p0e25, p0e26, p0e27, p0e28, p0e29, p0e30, p0e31, p0e32, p0e33, p0e34, p0e35, p0e36, p0e37, p0e38, p0e39, p0e40, p0e41, p0e42, p0e43, p0e44, p0e45, p0e46, p0e47, p0e48, p0e49, p0e50, p0e51, p0e52, p0e53, p0e54, d_c, d_v, d_ap, d_sli, d_slnil, d_bv, d_bc, d_mul, d_add, d_sub, d_wrap, d_tdiv, d_mx, hE, fnsf0, fnsf1, fnsf2, fnsf3, fnsf4, fnsf5, fnsf6, fnsf7, fnsf8, fnsf9] at hf r2
             omega)
          | (have r1 := pRate_ok (cw := E.i 14) (sst := E.i 15) k3
             simp only [p0e0, p0e1, p0e2, p0e3, p0e4, p0e5, p0e6, p0e7, p0e8, p0e9, p0e10, p0e11, p0e12, p0e13, p0e14, p0e15, p0e16, p0e17, p0e18, p0e19, p0e20, p0e21, p0e22, p0e23, p0e24, p0e25, p0e26, p0e27, p0e28, p0e29, p0e30, p0e31, p0e32, p0e33, p0e34, p0e35, p0e36, p0e37, p0e38, p0e39, p0e40, p0e41, p0e42, p0e43, p0e44, p0e45, p0e46, p0e47, p0e48, p0e49, p0e50, p0e51, p0e52, p0e53, p0e54, d_c, d_v, d_ap, d_sli, d_slnil, d_bv, d_bc, d_mul, d_add, d_sub, d_wrap, d_tdiv, d_mx, hE, fnsf0, fnsf1, fnsf2, fnsf3, fnsf4, fnsf5, fnsf6, fnsf7, fnsf8, fnsf9] at hf
             omega)
          | (have r0 := winR_ok (cw := E.i 14) (sz := E.i 1) k3 (by omega)
             have r1 := pRate_ok (cw := winR (E.i 14) (E.i 1)) (sst := winR (E.i 14) (E.i 1)) (by omega)
             simp only [p0e0, p0e1, p0e2, p0e3, p0e4, p0e5, p0e6, p0e7, p0e8, p0e9, p0e10, p0e11, p0e12, p0e13, p0e14, p0e15, p0e16, p0e17, p0e18, p0e19, p0e20, p0e21, p0e22, p0e23, p0e24, p0e25, p0e26, p0e27, p0e28, p0e29, p0e30, p0e31, p0e32, p0e33, p0e34, p0e35, p0e36, p0e37, p0e38, p0e39, p0e40, p0e41, p0e42, p0e43, p0e44, p0e45, p0e46, p0e47, p0e48, p0e49, p0e50, p0e51, p0e52, p0e53, p0e54, d_c, d_v, d_ap, d_sli, d_slnil, d_bv, d_bc, d_mul, d_add, d_sub, d_wrap, d_tdiv, d_mx, hE, fnsf0, fnsf1, fnsf2, fnsf3, fnsf4, fnsf5, fnsf6, fnsf7, fnsf8, fnsf9] at hf
             omega)
          | (have r0 := winC_ok (cw := E.i 14) (sz := E.i 1) k3 (by omega)
             have r1 := pRate_ok (cw := winC (E.i 14) (E.i 1)) (sst := winC (E.i 14) (E.i 1)) (by omega)
             simp only [p0e0, p0e1, p0e2, p0e3, p0e4, p0e5, p0e6, p0e7, p0e8, p0e9, p0e10, p0e11, p0e12, p0e13, p0e14, p0e15, p0e16, p0e17, p0e18, p0e19, p0e20, p0e21, p0e22, p0e23, p0e24, p0e25, p0e26, p0e27, p0e28, p0e29, p0e30, p0e31, p0e32, p0e33, p0e34, p0e35, p0e36, p0e37, p0e38, p0e39, p0e40, p0e41, p0e42, p0e43, p0e44, p0e45, p0e46, p0e47, p0e48, p0e49, p0e50, p0e51, p0e52, p0e53, p0e54, d_c, d_v, d_ap, d_sli, d_slnil, d_bv, d_bc, d_mul, d_add, d_sub, d_wrap, d_tdiv, d_mx, hE, fnsf0, fnsf1, fnsf2, fnsf3, fnsf4, fnsf5, fnsf6, fnsf7, fnsf8, fnsf9] at hf
             omega)
          | (have r1 := pRate_ok (cw := E.i 1 * 2) (sst := E.i 14 / 2) (by omega)
             simp only [p0e0, p0e1, p0e2, p0e3, p0e4, p0e5, p0e6, p0e7, p0e8, p0e9, p0e10, p0e11, p0e12, p0e13, p0e14, p0e15, p0e16, p0e17, p0e18, p0e19, p0e20, p0e21, p0e22, p0e23, p0e24, p0e25, p0e26, p0e27, p0e28, p0e29, p0e30, p0e31, p0e32, p0e33, p0e34, p0e35, p0e36, p0e37, p0e38, p0e39, p0e40, p0e41, p0e42, p0e43, p0e44, p0e45, p0e46, p0e47, p0e48, p0e49, p0e50, p0e51, p0e52, p0e53, p0e54, d_c, d_v, d_ap, d_sli, d_slnil, d_bv, d_bc, d_mul, d_add, d_sub, d_wrap, d_tdiv, d_mx, hE, fnsf0, fnsf1, fnsf2, fnsf3, fnsf4, fnsf5, fnsf6, fnsf7, fnsf8, fnsf9, hhalf] at hf
             omega)
      · -- p0x44
        intro hf
        skip
        simp only [facts_cons, facts_nil, lt_t, lt_f, le_t, le_f, eq_t, eq_f, and_true, d_c, d_v, d_bv] at hf
        have hs := hstep (by omega)
        obtain ⟨hs1, hs2⟩ := hs
        change (_ ∧ _) ∨ (_ ∧ E.i 14 ≤ 190000 ∧ E.i 13 = -1 ∧ E.i 15 = 4611686018427387903) ∨ (_ ∧ _) ∨ _ at hs2
        first
          | omega
          | (have r1 := pRate_ok (cw := E.i 14) (sst := E.i 15) k3
             have r2 := pRate_ok (cw := ackCw (E.i 14) (p0e5.den E) (E.i 1)) (sst := E.i 15) (ackCw_ok (by omega) (by omega))
             simp only [p0e0, p0e1, p0e2, p0e3, p0e4, p0e5, p0e6, p0e7, p0e8, p0e9, p0e10, p0e11, p0e12, p0e13, p0e14, p0e15, p0e16, p0e17, p0e18, p0e19, p0e20, p0e21, p0e22, p0e23, p0e24, p0e25, p0e26, p0e27, p0e28, p0e29, p0e30, p0e31, p0e32, p0e33, p0e34, p0e35, p0e36, p0e37, p0e38, p0e39, p0e40, p0e41, p0e42, p0e43, p0e44, p0e45, p0e46, p0e47, p0e48, p0e49, p0e50, p0e51, p0e52, p0e53, p0e54, d_c, d_v, d_ap, d_sli, d_slnil, d_bv, d_bc, d_mul, d_add, d_sub, d_wrap, d_tdiv, d_mx, hE, fnsf0, fnsf1, fnsf2, fnsf3, fnsf4, fnsf5, fnsf6, fnsf7, fnsf8, fnsf9] at hf r2
             omega)
          | (have r1 := pRate_ok (cw := E.i 14) (sst := E.i 15) k3
             simp only [p0e0, p0e1, p0e2, p0e3, p0e4, p0e5, p0e6, p0e7, p0e8, p0e9, p0e10, p0e11, p0e12, p0e13, p0e14, p0e15, p0e16, p0e17, p0e18, p0e19, p0e20, p0e21, p0e22, p0e23, p0e24, p0e25, p0e26, p0e27, p0e28, p0e29, p0e30, p0e31, p0e32, p0e33, p0e34, p0e35, p0e36, p0e37, p0e38, p0e39, p0e40, p0e41, p0e42, p0e43, p0e44, p0e45, p0e46, p0e47, p0e48, p0e49, p0e50, p0e51, p0e52, p0e53, p0e54, d_c, d_v, d_ap, d_sli, d_slnil, d_bv, d_bc, d_mul, d_add, d_sub, d_wrap, d_tdiv, d_mx, hE, fnsf0, fnsf1, fnsf2, fnsf3, fnsf4, fnsf5, fnsf6, fnsf7, fnsf8, fnsf9] at hf
             omega)
          | (have r0 := winR_ok (cw := E.i 14) (sz := E.i 1) k3 (by omega)
             have r1 := pRate_ok (cw := winR (E.i 14) (E.i 1)) (sst := winR (E.i 14) (E.i 1)) (by omega)
             simp only [p0e0, p0e1, p0e2, p0e3, p0e4, p0e5, p0e6, p0e7, p0e8, p0e9, p0e10, p0e11, p0e12, p0e13, p0e14, p0e15, p0e16, p0e17, p0e18, p0e19, p0e20, p0e21, p0e22, p0e23, p0e24, p0e25, p0e26, p0e27, p0e28, p0e29, p0e30, p0e31, p0e32, p0e33, p0e34, p0e35, p0e36, p0e37, p0e38, p0e39, p0e40, p0e41, p0e42, p0e43, p0e44, p0e45, p0e46, p0e47, p0e48, p0e49, p0e50, p0e51, p0e52, p0e53, p0e54, d_c, d_v, d_ap, d_sli, d_slnil, d_bv, d_bc, d_mul, d_add, d_sub, d_wrap, d_tdiv, d_mx, hE, fnsf0, fnsf1, fnsf2, fnsf3, fnsf4, fnsf5, fnsf6, fnsf7, fnsf8, fnsf9] at hf
             omega)
          | (have r0 := winC_ok (cw := E.i 14) (sz := E.i 1) k3 (by omega)
             have r1 := pRate_ok (cw := winC (E.i 14) (E.i 1)) (sst := winC (E.i 14) (E.i 1)) (by omega)
             simp only [p0e0, p0e1, p0e2, p0e3, p0e4, p0e5, p0e6, p0e7, p0e8, p0e9, p0e10, p0e11, p0e12, p0e13, p0e14, p0e15, p0e16, p0e17, p0e18, p0e19, p0e20, p0e21, p0e22, p0e23, p0e24, p0e25, p0e26, p0e27, p0e28, p0e29, p0e30, p0e31, p0e32, p0e33, p0e34, p0e35, p0e36, p0e37, p0e38, p0e39, p0e40, p0e41, p0e42, p0e43, p0e44, p0e45, p0e46, p0e47, p0e48, p0e49, p0e50, p0e51, p0e52, p0e53, p0e54, d_c, d_v, d_ap, d_sli, d_slnil, d_bv, d_bc, d_mul, d_add, d_sub, d_wrap, d_tdiv, d_mx, hE, fnsf0, fnsf1, fnsf2, fnsf3, fnsf4, fnsf5, fnsf6, fnsf7, fnsf8, fnsf9] at hf
             omega)
          | (have r1 := pRate_ok (cw := E.i 1 * 2) (sst := E.i 14 / 2) (by omega)
             simp only [p0e0, p0e1, p0e2, p0e3, p0e4, p0e5, p0e6, p0e7, p0e8, p0e9, p0e10, p0e11, p0e12, p0e13, p0e14, p0e15, p0e16, p0e17, p0e18, p0e19, p0e20, p0e21, p0e22, p0e23, p0e24, p0e25, p0e26, p0e27, p0e28, p0e29, p0e30, p0e31, p0e32, p0e33, p0e34, p0e35, p0e36, p0e37, p0e38, p0e39, p0e40, p0e41, p0e42, p0e43, p0e44, p0e45, p0e46, p0e47, p0e48, p0e49, p0e50, p0e51, p0e52, p0e53, p0e54, d_c, d_v, d_ap, d_sli, d_slnil, d_bv, d_bc, d_mul, d_add, d_sub, d_wrap, d_tdiv, d_mx, hE, fnsf0, fnsf1, fnsf2, fnsf3, fnsf4, fnsf5, fnsf6, fnsf7, fnsf8, fnsf9, hhalf] at hf
             omega)
      · -- p0x45
        intro hf
        skip
        simp only [facts_cons, facts_nil, lt_t, lt_f, le_t, le_f, eq_t, eq_f, and_true, d_c, d_v, d_bv] at hf
        have hs := hstep (by omega)
        obtain ⟨hs1, hs2⟩ := hs
        change (_ ∧ _) ∨ (_ ∧ E.i 14 ≤ 190000 ∧ E.i 13 = -1 ∧ E.i 15 = 4611686018427387903) ∨ (_ ∧ _) ∨ _ at hs2
        first
          | omega
          | (have r1 := pRate_ok (cw := E.i 14) (sst := E.i 15) k3
             have r2 := pRate_ok (cw := ackCw (E.i 14) (p0e5.den E) (E.i 1)) (sst := E.i 15) (ackCw_ok (by omega) (by omega))
             simp only [p0e0, p0e1, p0e2, p0e3, p0e4, p0e5, p0e6, p0e7, p0e8, p0e9, p0e10, p0e11, p0e12, p0e13, p0e14, p0e15, p0e16, p0e17, p0e18, p0e19, p0e20, p0e21, p0e22, p0e23, p0e24, p0e25, p0e26, p0e27, p0e28, p0e29, p0e30, p0e31, p0e32, p0e33, p0e34, p0e35, p0e36, p0e37, p0e38, p0e39, p0e40, p0e41, p0e42, p0e43, p0e44, p0e45, p0e46, p0e47, p0e48, p0e49, p0e50, p0e51, p0e52, p0e53, p0e54, d_c, d_v, d_ap, d_sli, d_slnil, d_bv, d_bc, d_mul, d_add, d_sub, d_wrap, d_tdiv, d_mx, hE, fnsf0, fnsf1, fnsf2, fnsf3, fnsf4, fnsf5, fnsf6, fnsf7, fnsf8, fnsf9] at hf r2
             omega)
          | (have r1 := pRate_ok (cw := E.i 14) (sst := E.i 15) k3
             simp only [p0e0, p0e1, p0e2, p0e3, p0e4, p0e5, p0e6, p0e7, p0e8, p0e9, p0e10, p0e11, p0e12, p0e13, p0e14, p0e15, p0e16, p0e17, p0e18, p0e19, p0e20, p0e21, p0e22, p0e23, p0e24, p0e25, p0e26, p0e27, p0e28, p0e29, p0e30, p0e31, p0e32, p0e33, p0e34, p0e35, p0e36, p0e37, p0e38, p0e39, p0e40, p0e41, p0e42, p0e43, p0e44, p0e45, p0e46, p0e47, p0e48, p0e49, p0e50, p0e51, p0e52, p0e53, p0e54, d_c, d_v, d_ap, d_sli, d_slnil, d_bv, d_bc, d_mul, d_add, d_sub, d_wrap, d_tdiv, d_mx, hE, fnsf0, fnsf1, fnsf2, fnsf3, fnsf4, fnsf5, fnsf6, fnsf7, fnsf8, fnsf9] at hf
             omega)
          | (have r0 := winR_ok (cw := E.i 14) (sz := E.i 1) k3 (by omega)
             have r1 := pRate_ok (cw := winR (E.i 14) (E.i 1)) (sst := winR (E.i 14) (E.i 1)) (by omega)
             simp only [p0e0, p0e1, p0e2, p0e3, p0e4, p0e5, p0e6, p0e7, p0e8, p0e9, p0e10, p0e11, p0e12, p0e13, p0e14, p0e15, p0e16, p0e17, p0e18, p0e19, p0e20, p0e21, p0e22, p0e23, p0e24, p0e25, p0e26, p0e27, p0e28, p0e29, p0e30, p0e31, p0e32, p0e33, p0e34, p0e35, p0e36, p0e37, p0e38, p0e39, p0e40, p0e41, p0e42, p0e43, p0e44, p0e45, p0e46, p0e47, p0e48, p0e49, p0e50, p0e51, p0e52, p0e53, p0e54, d_c, d_v, d_ap, d_sli, d_slnil, d_bv, d_bc, d_mul, d_add, d_sub, d_wrap, d_tdiv, d_mx, hE, fnsf0, fnsf1, fnsf2, fnsf3, fnsf4, fnsf5, fnsf6, fnsf7, fnsf8, fnsf9] at hf
             omega)
          | (have r0 := winC_ok (cw := E.i 14) (sz := E.i 1) k3 (by omega)
             have r1 := pRate_ok (cw := winC (E.i 14) (E.i 1)) (sst := winC (E.i 14) (E.i 1)) (by omega)
             simp only [p0e0, p0e1, p0e2, p0e3, p0e4, p0e5, p0e6, p0e7, p0e8, p0e9, p0e10, p0e11, p0e12, p0e13, p0e14, p0e15, p0e16, p0e17, p0e18, p0e19, p0e20, p0e21, p0e22, p0e23, p0e24, p0e25, p0e26, p0e27, p0e28, p0e29, p0e30, p0e31, p0e32, p0e33, p0e34, p0e35, p0e36, p0e37, p0e38, p0e39, p0e40, p0e41, p0e42, p0e43, p0e44, p0e45, p0e46, p0e47, p0e48, p0e49, p0e50, p0e51, p0e52, p0e53, p0e54, d_c, d_v, d_ap, d_sli, d_slnil, d_bv, d_bc, d_mul, d_add, d_sub, d_wrap, d_tdiv, d_mx, hE, fnsf0, fnsf1, fnsf2, fnsf3, fnsf4, fnsf5, fnsf6, fnsf7, fnsf8, fnsf9] at hf
             omega)
          | (have r1 := pRate_ok (cw := E.i 1 * 2) (sst := E.i 14 / 2) (by omega)
             simp only [p0e0, p0e1, p0e2, p0e3, p0e4, p0e5, p0e6, p0e7, p0e8, p0e9, p0e10, p0e11, p0e12, p0e13, p0e14, p0e15, p0e16, p0e17, p0e18, p0e19, p0e20, p0e21, p0e22, p0e23, p0e24, p0e25, p0e26, p0e27, p0e28, p0e29, p0e30, p0e31, p0e32, p0e33, p0e34, p0e35, p0e36, p0e37, p0e38, p0e39, p0e40, p0e41, p0e42, p0e43, p0e44, p0e45, p0e46, p0e47, p0e48, p0e49, p0e50, p0e51, p0e52, p0e53, p0e54, d_c, d_v, d_ap, d_sli, d_slnil, d_bv, d_bc, d_mul, d_add, d_sub, d_wrap, d_tdiv, d_mx, hE, fnsf0, fnsf1, fnsf2, fnsf3, fnsf4, fnsf5, fnsf6, fnsf7, fnsf8, fnsf9, hhalf] at hf
             omega)
      · -- p0x46
        intro hf
        skip
        simp only [facts_cons, facts_nil, lt_t, lt_f, le_t, le_f, eq_t, eq_f, and_true, d_c, d_v, d_bv] at hf
        have hs := hstep (by omega)
        obtain ⟨hs1, hs2⟩ := hs
        change (_ ∧ _) ∨ (_ ∧ E.i 14 ≤ 190000 ∧ E.i 13 = -1 ∧ E.i 15 = 4611686018427387903) ∨ (_ ∧ _) ∨ _ at hs2
        first
          | omega
          | (have r1 := pRate_ok (cw := E.i 14) (sst := E.i 15) k3
             have r2 := pRate_ok (cw := ackCw (E.i 14) (p0e5.den E) (E.i 1)) (sst := E.i 15) (ackCw_ok (by omega) (by omega))
             simp only [p0e0, p0e1, p0e2, p0e3, p0e4, p0e5, p0e6, p0e7, p0e8, p0e9, p0e10, p0e11, p0e12, p0e13, p0e14, p0e15, p0e16, p0e17, p0e18, p0e19, p0e20, p0e21, p0e22, p0e23, p0e24, p0e25, p0e26, p0e27, p0e28, p0e29, p0e30, p0e31, p0e32, p0e33, p0e34, p0e35, p0e36, p0e37, p0e38, p0e39, p0e40, p0e41, p0e42, p0e43, p0e44, p0e45, p0e46, p0e47, p0e48, p0e49, p0e50, p0e51, p0e52, p0e53, p0e54, d_c, d_v, d_ap, d_sli, d_slnil, d_bv, d_bc, d_mul, d_add, d_sub, d_wrap, d_tdiv, d_mx, hE, fnsf0, fnsf1, fnsf2, fnsf3, fnsf4, fnsf5, fnsf6, fnsf7, fnsf8, fnsf9] at hf r2
             omega)
          | (have r1 := pRate_ok (cw := E.i 14) (sst := E.i 15) k3
             simp only [p0e0, p0e1, p0e2, p0e3, p0e4, p0e5, p0e6, p0e7, p0e8, p0e9, p0e10, p0e11, p0e12, p0e13, p0e14, p0e15, p0e16, p0e17, p0e18, p0e19, p0e20, p0e21, p0e22, p0e23, p0e24, p0e25, p0e26, p0e27, p0e28, p0e29, p0e30, p0e31, p0e32, p0e33, p0e34, p0e35, p0e36, p0e37, p0e38, p0e39, p0e40, p0e41, p0e42, p0e43, p0e44, p0e45, p0e46, p0e47, p0e48, p0e49, p0e50, p0e51, p0e52, p0e53, p0e54, d_c, d_v, d_ap, d_sli, d_slnil, d_bv, d_bc, d_mul, d_add, d_sub, d_wrap, d_tdiv, d_mx, hE, fnsf0, fnsf1, fnsf2, fnsf3, fnsf4, fnsf5, fnsf6, fnsf7, fnsf8, fnsf9] at hf
             omega)
          | (have r0 := winR_ok (cw := E.i 14) (sz := E.i 1) k3 (by omega)
             have r1 := pRate_ok (cw := winR (E.i 14) (E.i 1)) (sst := winR (E.i 14) (E.i 1)) (by omega)
             simp only [p0e0, p0e1, p0e2, p0e3, p0e4, p0e5, p0e6, p0e7, p0e8, p0e9, p0e10, p0e11, p0e12, p0e13, p0e14, p0e15, p0e16, p0e17, p0e18, p0e19, p0e20, p0e21, p0e22, p0e23, p0e24, p0e25, p0e26, p0e27, p0e28, p0e29, p0e30, p0e31, p0e32, p0e33, p0e34, p0e35, p0e36, p0e37, p0e38, p0e39, p0e40, p0e41, p0e42, p0e43, p0e44, p0e45, p0e46, p0e47, p0e48, p0e49, p0e50, p0e51, p0e52, p0e53, p0e54, d_c, d_v, d_ap, d_sli, d_slnil, d_bv, d_bc, d_mul, d_add, d_sub, d_wrap, d_tdiv, d_mx, hE, fnsf0, fnsf1, fnsf2, fnsf3, fnsf4, fnsf5, fnsf6, fnsf7, fnsf8, fnsf9] at hf
             omega)
          | (have r0 := winC_ok (cw := E.i 14) (sz := E.i 1) k3 (by omega)
             have r1 := pRate_ok (cw := winC (E.i 14) (E.i 1)) (sst := winC (E.i 14) (E.i 1)) (by omega)
             simp only [p0e0, p0e1, p0e2, p0e3, p0e4, p0e5, p0e6, p0e7, p0e8, p0e9, p0e10, p0e11, p0e12, p0e13, p0e14, p0e15, p0e16, p0e17, p0e18, p0e19, p0e20, p0e21, p0e22, p0e23, p0e24, p0e25, p0e26, p0e27, p0e28, p0e29, p0e30, p0e31, p0e32, p0e33, p0e34, p0e35, p0e36, p0e37, p0e38, p0e39, p0e40, p0e41, p0e42, p0e43, p0e44, p0e45, p0e46, p0e47, p0e48, p0e49, p0e50, p0e51, p0e52, p0e53, p0e54, d_c, d_v, d_ap, d_sli, d_slnil, d_bv, d_bc, d_mul, d_add, d_sub, d_wrap, d_tdiv, d_mx, hE, fnsf0, fnsf1, fnsf2, fnsf3, fnsf4, fnsf5, fnsf6, fnsf7, fnsf8, fnsf9] at hf
             omega)
          | (have r1 := pRate_ok (cw := E.i 1 * 2) (sst := E.i 14 / 2) (by omega)
             simp only [p0e0, p0e1, p0e2, p0e3, p0e4, p0e5, p0e6, p0e7, p0e8, p0e9, p0e10, p0e11, p0e12, p0e13, p0e14, p0e15, p0e16, p0e17, p0e18, p0e19, p0e20, p0e21, p0e22, p0e23, p0e24, p0e25, p0e26, p0e27, p0e28, p0e29, p0e30, p0e31, p0e32, p0e33, p0e34, p0e35, p0e36, p0e37, p0e38, p0e39, p0e40, p0e41, p0e42, p0e43, p0e44, p0e45, p0e46, p0e47, p0e48, p0e49, p0e50, p0e51, p0e52, p0e53, p0e54, d_c, d_v, d_ap, d_sli, d_slnil, d_bv, d_bc, d_mul, d_add, d_sub, d_wrap, d_tdiv, d_mx, hE, fnsf0, fnsf1, fnsf2, fnsf3, fnsf4, fnsf5, fnsf6, fnsf7, fnsf8, fnsf9, hhalf] at hf
             omega)
      · -- p0x47
        intro hf
        skip
        simp only [facts_cons, facts_nil, lt_t, lt_f, le_t, le_f, eq_t, eq_f, and_true, d_c, d_v, d_bv] at hf
        have hs := hstep (by omega)
        obtain ⟨hs1, hs2⟩ := hs
        change (_ ∧ _) ∨ (_ ∧ E.i 14 ≤ 190000 ∧ E.i 13 = -1 ∧ E.i 15 = 4611686018427387903) ∨ (_ ∧ _) ∨ _ at hs2
        first
          | omega
          | (have r1 := pRate_ok (cw := E.i 14) (sst := E.i 15) k3
             have r2 := pRate_ok (cw := ackCw (E.i 14) (p0e5.den E) (E.i 1)) (sst := E.i 15) (ackCw_ok (by omega) (by omega))
             simp only [p0e0, p0e1, p0e2, p0e3, p0e4, p0e5, p0e6, p0e7, p0e8, p0e9, p0e10, p0e11, p0e12, p0e13, p0e14, p0e15, p0e16, p0e17, p0e18, p0e19, p0e20, p0e21, p0e22, p0e23, p0e24, p0e25, p0e26, p0e27, p0e28, p0e29, p0e30, p0e31, p0e32, p0e33, p0e34, p0e35, p0e36, p0e37, p0e38, p0e39, p0e40, p0e41, p0e42, p0e43, p0e44, p0e45, p0e46, p0e47, p0e48, p0e49, p0e50, p0e51, p0e52, p0e53, p0e54, d_c, d_v, d_ap, d_sli, d_slnil, d_bv, d_bc, d_mul, d_add, d_sub, d_wrap, d_tdiv, d_mx, hE, fnsf0, fnsf1, fnsf2, fnsf3, fnsf4, fnsf5, fnsf6, fnsf7, fnsf8, fnsf9] at hf r2
             omega)
          | (have r1 := pRate_ok (cw := E.i 14) (sst := E.i 15) k3
             simp only [p0e0, p0e1, p0e2, p0e3, p0e4, p0e5, p0e6, p0e7, p0e8, p0e9, p0e10, p0e11, p0e12, p0e13, p0e14, p0e15, p0e16, p0e17, p0e18, p0e19, p0e20, p0e21, p0e22, p0e23, p0e24, p0e25, p0e26, p0e27, p0e28, p0e29, p0e30, p0e31, p0e32, p0e33, p0e34, p0e35, p0e36, p0e37, p0e38, p0e39, p0e40, p0e41, p0e42, p0e43, p0e44, p0e45, p0e46, p0e47, p0e48, p0e49, p0e50, p0e51, p0e52, p0e53, p0e54, d_c, d_v, d_ap, d_sli, d_slnil, d_bv, d_bc, d_mul, d_add, d_sub, d_wrap, d_tdiv, d_mx, hE, fnsf0, fnsf1, fnsf2, fnsf3, fnsf4, fnsf5, fnsf6, fnsf7, fnsf8, fnsf9] at hf
             omega)
          | (have r0 := winR_ok (cw := E.i 14) (sz := E.i 1) k3 (by omega)
             have r1 := pRate_ok (cw := winR (E.i 14) (E.i 1)) (sst := winR (E.i 14) (E.i 1)) (by omega)
             simp only [p0e0, p0e1, p0e2, p0e3, p0e4, p0e5, p0e6, p0e7, p0e8, p0e9, p0e10, p0e11, p0e12, p0e13, p0e14, p0e15, p0e16, p0e17, p0e18, p0e19, p0e20, p0e21, p0e22, p0e23, p0e24, p0e25, p0e26, p0e27, p0e28, p0e29, p0e30, p0e31, p0e32, p0e33, p0e34, p0e35, p0e36, p0e37, p0e38, p0e39, p0e40, p0e41, p0e42, p0e43, p0e44, p0e45, p0e46, p0e47, p0e48, p0e49, p0e50, p0e51, p0e52, p0e53, p0e54, d_c, d_v, d_ap, d_sli, d_slnil, d_bv, d_bc, d_mul, d_add, d_sub, d_wrap, d_tdiv, d_mx, hE, fnsf0, fnsf1, fnsf2, fnsf3, fnsf4, fnsf5, fnsf6, fnsf7, fnsf8, fnsf9] at hf
             omega)
          | (have r0 := winC_ok (cw := E.i 14) (sz := E.i 1) k3 (by omega)
             have r1 := pRate_ok (cw := winC (E.i 14) (E.i 1)) (sst := winC (E.i 14) (E.i 1)) (by omega)
             simp only [p0e0, p0e1, p0e2, p0e3, p0e4, p0e5, p0e6, p0e7, p0e8, p0e9, p0e10, p0e11, p0e12, p0e13, p0e14, p0e15, p0e16, p0e17, p0e18, p0e19, p0e20, p0e21, p0e22, p0e23, p0e24, p0e25, p0e26, p0e27, p0e28, p0e29, p0e30, p0e31, p0e32, p0e33, p0e34, p0e35, p0e36, p0e37, p0e38, p0e39, p0e40, p0e41, p0e42, p0e43, p0e44, p0e45, p0e46, p0e47, p0e48, p0e49, p0e50, p0e51, p0e52, p0e53, p0e54, d_c, d_v, d_ap, d_sli, d_slnil, d_bv, d_bc, d_mul, d_add, d_sub, d_wrap, d_tdiv, d_mx, hE, fnsf0, fnsf1, fnsf2, fnsf3, fnsf4, fnsf5, fnsf6, fnsf7, fnsf8, fnsf9] at hf
             omega)
          | (have r1 := pRate_ok (cw := E.i 1 * 2) (sst := E.i 14 / 2) (by omega)
             simp only [p0e0, p0e1, p0e2, p0e3, p0e4, p0e5, p0e6, p0e7, p0e8, p0e9, p0e10, p0e11, p0e12, p0e13, p0e14, p0e15, p0e16, p0e17, p0e18, p0e19, p0e20, p0e21, p0e22, p0e23, p0e24, p0e25, p0e26, p0e27, p0e28, p0e29, p0e30, p0e31, p0e32, p0e33, p0e34, p0e35, p0e36, p0e37, p0e38, p0e39, p0e40, p0e41, p0e42, p0e43, p0e44, p0e45, p0e46, p0e47, p0e48, p0e49, p0e50, p0e51, p0e52, p0e53, p0e54, d_c, d_v, d_ap, d_sli, d_slnil, d_bv, d_bc, d_mul, d_add, d_sub, d_wrap, d_tdiv, d_mx, hE, fnsf0, fnsf1, fnsf2, fnsf3, fnsf4, fnsf5, fnsf6, fnsf7, fnsf8, fnsf9, hhalf] at hf
             omega)
      · -- p0x48
        intro hf
        skip
        simp only [facts_cons, facts_nil, lt_t, lt_f, le_t, le_f, eq_t, eq_f, and_true, d_c, d_v, d_bv] at hf
        have hs := hstep (by omega)
        obtain ⟨hs1, hs2⟩ := hs
        change (_ ∧ _) ∨ (_ ∧ E.i 14 ≤ 190000 ∧ E.i 13 = -1 ∧ E.i 15 = 4611686018427387903) ∨ (_ ∧ _) ∨ _ at hs2
        first
          | omega
          | (have r1 := pRate_ok (cw := E.i 14) (sst := E.i 15) k3
             have r2 := pRate_ok (cw := ackCw (E.i 14) (p0e5.den E) (E.i 1)) (sst := E.i 15) (ackCw_ok (by omega) (by omega))
             simp only [p0e0, p0e1, p0e2, p0e3, p0e4, p0e5, p0e6, p0e7, p0e8, p0e9, p0e10, p0e11, p0e12, p0e13, p0e14, p0e15, p0e16, p0e17, p0e18, p0e19, p0e20, p0e21, p0e22, p0e23, p0e24, p0e25, p0e26, p0e27, p0e28, p0e29, p0e30, p0e31, p0e32, p0e33, p0e34, p0e35, p0e36, p0e37, p0e38, p0e39, p0e40, p0e41, p0e42, p0e43, p0e44, p0e45, p0e46, p0e47, p0e48, p0e49, p0e50, p0e51, p0e52, p0e53, p0e54, d_c, d_v, d_ap, d_sli, d_slnil, d_bv, d_bc, d_mul, d_add, d_sub, d_wrap, d_tdiv, d_mx, hE, fnsf0, fnsf1, fnsf2, fnsf3, fnsf4, fnsf5, fnsf6, fnsf7, fnsf8, fnsf9] at hf r2
             omega)
          | (have r1 := pRate_ok (cw := E.i 14) (sst := E.i 15) k3
             simp only [p0e0, p0e1, p0e2, p0e3, p0e4, p0e5, p0e6, p0e7, p0e8, p0e9, p0e10, p0e11, p0e12, p0e13, p0e14, p0e15, p0e16, p0e17, p0e18, p0e19, p0e20, p0e21, p0e22, p0e23, p0e24, p0e25, p0e26, p0e27, p0e28, p0e29, p0e30, p0e31, p0e32, p0e33, p0e34, p0e35, p0e36, p0e37, p0e38, p0e39, p0e40, p0e41, p0e42, p0e43, p0e44, p0e45, p0e46, p0e47, p0e48, p0e49, p0e50, p0e51, p0e52, p0e53, p0e54, d_c, d_v, d_ap, d_sli, d_slnil, d_bv, d_bc, d_mul, d_add, d_sub, d_wrap, d_tdiv, d_mx, hE, fnsf0, fnsf1, fnsf2, fnsf3, fnsf4, fnsf5, fnsf6, fnsf7, fnsf8, fnsf9] at hf
             omega)
          | (have r0 := winR_ok (cw := E.i 14) (sz := E.i 1) k3 (by omega)
             have r1 := pRate_ok (cw := winR (E.i 14) (E.i 1)) (sst := winR (E.i 14) (E.i 1)) (by omega)
             simp only [p0e0, p0e1, p0e2, p0e3, p0e4, p0e5, p0e6, p0e7, p0e8, p0e9, p0e10, p0e11, p0e12, p0e13, p0e14, p0e15, p0e16, p0e17, p0e18, p0e19, p0e20, p0e21, p0e22, p0e23, p0e24, p0e25, p0e26, p0e27, p0e28, p0e29, p0e30, p0e31, p0e32, p0e33, p0e34, p0e35, p0e36, p0e37, p0e38, p0e39, p0e40, p0e41, p0e42, p0e43, p0e44, p0e45, p0e46, p0e47, p0e48, p0e49, p0e50, p0e51, p0e52, p0e53, p0e54, d_c, d_v, d_ap, d_sli, d_slnil, d_bv, d_bc, d_mul, d_add, d_sub, d_wrap, d_tdiv, d_mx, hE, fnsf0, fnsf1, fnsf2, fnsf3, fnsf4, fnsf5, fnsf6, fnsf7, fnsf8, fnsf9] at hf
             omega)
          | (have r0 := winC_ok (cw := E.i 14) (sz := E.i 1) k3 (by omega)
             have r1 := pRate_ok (cw := winC (E.i 14) (E.i 1)) (sst := winC (E.i 14) (E.i 1)) (by omega)
             simp only [p0e0, p0e1, p0e2, p0e3, p0e4, p0e5, p0e6, p0e7, p0e8, p0e9, p0e10, p0e11, p0e12, p0e13, p0e14, p0e15, p0e16, p0e17, p0e18, p0e19, p0e20, p0e21, p0e22, p0e23, p0e24, p0e25, p0e26, p0e27, p0e28, p0e29, p0e30, p0e31, p0e32, p0e33, p0e34, p0e35, p0e36, p0e37, p0e38, p0e39, p0e40, p0e41, p0e42, p0e43, p0e44, p0e45, p0e46, p0e47, p0e48, p0e49, p0e50, p0e51, p0e52, p0e53, p0e54, d_c, d_v, d_ap, d_sli, d_slnil, d_bv, d_bc, d_mul, d_add, d_sub, d_wrap, d_tdiv, d_mx, hE, fnsf0, fnsf1, fnsf2, fnsf3, fnsf4, fnsf5, fnsf6, fnsf7, fnsf8, fnsf9] at hf
             omega)
          | (have r1 := pRate_ok (cw := E.i 1 * 2) (sst := E.i 14 / 2) (by omega)
             simp only [p0e0, p0e1, p0e2, p0e3, p0e4, p0e5, p0e6, p0e7, p0e8, p0e9, p0e10, p0e11, p0e12, p0e13, p0e14, p0e15, p0e16, p0e17, p0e18, p0e19, p0e20, p0e21, p0e22, p0e23, p0e24, p0e25, p0e26, p0e27, p0e28, p0e29, p0e30, p0e31, p0e32, p0e33, p0e34, p0e35, p0e36, p0e37, p0e38, p0e39, p0e40, p0e41, p0e42, p0e43, p0e44, p0e45, p0e46, p0e47, p0e48, p0e49, p0e50, p0e51, p0e52, p0e53, p0e54, d_c, d_v, d_ap, d_sli, d_slnil, d_bv, d_bc, d_mul, d_add, d_sub, d_wrap, d_tdiv, d_mx, hE, fnsf0, fnsf1, fnsf2, fnsf3, fnsf4, fnsf5, fnsf6, fnsf7, fnsf8, fnsf9, hhalf] at hf
             omega)
      · -- p0x49
        intro hf
        skip
        simp only [facts_cons, facts_nil, lt_t, lt_f, le_t, le_f, eq_t, eq_f, and_true, d_c, d_v, d_bv] at hf
        have hs := hstep (by omega)
        obtain ⟨hs1, hs2⟩ := hs
        change (_ ∧ _) ∨ (_ ∧ E.i 14 ≤ 190000 ∧ E.i 13 = -1 ∧ E.i 15 = 4611686018427387903) ∨ (_ ∧ _) ∨ _ at hs2
        first
          | omega
          | (have r1 := pRate_ok (cw := E.i 14) (sst := E.i 15) k3
             have r2 := pRate_ok (cw := ackCw (E.i 14) (p0e5.den E) (E.i 1)) (sst := E.i 15) (ackCw_ok (by omega) (by omega))
             simp only [p0e0, p0e1, p0e2, p0e3, p0e4, p0e5, p0e6, p0e7, p0e8, p0e9, p0e10, p0e11, p0e12, p0e13, p0e14, p0e15, p0e16, p0e17, p0e18, p0e19, p0e20, p0e21, p0e22, p0e23, p0e24, p0e25, p0e26, p0e27, p0e28, p0e29, p0e30, p0e31, p0e32, p0e33, p0e34, p0e35, p0e36, p0e37, p0e38, p0e39, p0e40, p0e41, p0e42, p0e43, p0e44, p0e45, p0e46, p0e47, p0e48, p0e49, p0e50, p0e51, p0e52, p0e53, p0e54, d_c, d_v, d_ap, d_sli, d_slnil, d_bv, d_bc, d_mul, d_add, d_sub, d_wrap, d_tdiv, d_mx, hE, fnsf0, fnsf1, fnsf2, fnsf3, fnsf4, fnsf5, fnsf6, fnsf7, fnsf8, fnsf9] at hf r2
             omega)
          | (have r1 := pRate_ok (cw := E.i 14) (sst := E.i 15) k3
             simp only [p0e0, p0e1, p0e2, p0e3, p0e4, p0e5, p0e6, p0e7, p0e8, p0e9, p0e10, p0e11, p0e12, p0e13, p0e14, p0e15, p0e16, p0e17, p0e18, p0e19, p0e20, p0e21, p0e22, p0e23, p0e24, p0e25, p0e26, p0e27, p0e28, p0e29, p0e30, p0e31, p0e32, p0e33, p0e34, p0e35, p0e36, p0e37, p0e38, p0e39, p0e40, p0e41, p0e42, p0e43, p0e44, p0e45, p0e46, p0e47, p0e48, p0e49, p0e50, p0e51, p0e52, p0e53, p0e54, d_c, d_v, d_ap, d_sli, d_slnil, d_bv, d_bc, d_mul, d_add, d_sub, d_wrap, d_tdiv, d_mx, hE, fnsf0, fnsf1, fnsf2, fnsf3, fnsf4, fnsf5, fnsf6, fnsf7, fnsf8, fnsf9] at hf
             omega)
          | (have r0 := winR_ok (cw := E.i 14) (sz := E.i 1) k3 (by omega)
             have r1 := pRate_ok (cw := winR (E.i 14) (E.i 1)) (sst := winR (E.i 14) (E.i 1)) (by omega)
             simp only [p0e0, p0e1, p0e2, p0e3, p0e4, p0e5, p0e6, p0e7, p0e8, p0e9, p0e10, p0e11, p0e12, p0e13, p0e14, p0e15, p0e16, p0e17, p0e18, p0e19, p0e20, p0e21, p0e22, p0e23, p0e24, p0e25, p0e26, p0e27, p0e28, p0e29, p0e30, p0e31, p0e32, p0e33, p0e34, p0e35, p0e36, p0e37, p0e38, p0e39, p0e40, p0e41, p0e42, p0e43, p0e44, p0e45, p0e46, p0e47, p0e48, p0e49, p0e50, p0e51, p0e52, p0e53, p0e54, d_c, d_v, d_ap, d_sli, d_slnil, d_bv, d_bc, d_mul, d_add, d_sub, d_wrap, d_tdiv, d_mx, hE, fnsf0, fnsf1, fnsf2, fnsf3, fnsf4, fnsf5, fnsf6, fnsf7, fnsf8, fnsf9] at hf
             omega)
          | (have r0 := winC_ok (cw := E.i 14) (sz := E.i 1) k3 (by omega)
             have r1 := pRate_ok (cw := winC (E.i 14) (E.i 1)) (sst := winC (E.i 14) (E.i 1)) (by omega)
             simp only [p0e0, p0e1, p0e2, p0e3, p0e4, p0e5, p0e6, p0e7, p0e8, p0e9, p0e10, p0e11, p0e12, p0e13, p0e14, p0e15, p0e16, p0e17, p0e18, p0e19, p0e20, p0e21, p0e22, p0e23, p0e24, p0e25, p0e26, p0e27, p0e28, p0e29, p0e30, p0e31, p0e32, p0e33, p0e34, p0e35, p0e36, p0e37, p0e38, p0e39, p0e40, p0e41, p0e42, p0e43, p0e44, p0e45, p0e46, p0e47, p0e48, p0e49, p0e50, p0e51, p0e52, p0e53, p0e54, d_c, d_v, d_ap, d_sli, d_slnil, d_bv, d_bc, d_mul, d_add, d_sub, d_wrap, d_tdiv, d_mx, hE, fnsf0, fnsf1, fnsf2, fnsf3, fnsf4, fnsf5, fnsf6, fnsf7, fnsf8, fnsf9] at hf
             omega)
          | (have r1 := pRate_ok (cw := E.i 1 * 2) (sst := E.i 14 / 2) (by omega)
             simp only [p0e0, p0e1, p0e2, p0e3, p0e4, p0e5, p0e6, p0e7, p0e8, p0e9, p0e10, p0e11, p0e12, p0e13, p0e14, p0e15, p0e16, p0e17, p0e18, p0e19, p0e20, p0e21, p0e22, p0e23, p0e24, p0e25, p0e26, p0e27, p0e28, p0e29, p0e30, p0e31, p0e32, p0e33, p0e34, p0e35, p0e36, p0e37, p0e38, p0e39, p0e40, p0e41, p0e42, p0e43, p0e44, p0e45, p0e46, p0e47, p0e48, p0e49, p0e50, p0e51, p0e52, p0e53, p0e54, d_c, d_v, d_ap, d_sli, d_slnil, d_bv, d_bc, d_mul, d_add, d_sub, d_wrap, d_tdiv, d_mx, hE, fnsf0, fnsf1, fnsf2, fnsf3, fnsf4, fnsf5, fnsf6, fnsf7, fnsf8, fnsf9, hhalf] at hf
             omega)
      · -- p0x50
        intro hf
        skip
        simp only [facts_cons, facts_nil, lt_t, lt_f, le_t, le_f, eq_t, eq_f, and_true, d_c, d_v, d_bv] at hf
        have hs := hstep (by omega)
        obtain ⟨hs1, hs2⟩ := hs
        change (_ ∧ _) ∨ (_ ∧ E.i 14 ≤ 190000 ∧ E.i 13 = -1 ∧ E.i 15 = 4611686018427387903) ∨ (_ ∧ _) ∨ _ at hs2
        first
          | omega
          | (have r1 := pRate_ok (cw := E.i 14) (sst := E.i 15) k3
             have r2 := pRate_ok (cw := ackCw (E.i 14) (p0e5.den E) (E.i 1)) (sst := E.i 15) (ackCw_ok (by omega) (by omega))
             simp only [p0e0, p0e1, p0e2, p0e3, p0e4, p0e5, p0e6, p0e7, p0e8, p0e9, p0e10, p0e11, p0e12, p0e13, p0e14, p0e15, p0e16, p0e17, p0e18, p0e19, p0e20, p0e21, p0e22, p0e23, p0e24, p0e25, p0e26, p0e27, p0e28, p0e29, p0e30, p0e31, p0e32, p0e33, p0e34, p0e35, p0e36, p0e37, p0e38, p0e39, p0e40, p0e41, p0e42, p0e43, p0e44, p0e45, p0e46, p0e47, p0e48, p0e49, p0e50, p0e51, p0e52, p0e53, p0e54, d_c, d_v, d_ap, d_sli, d_slnil, d_bv, d_bc, d_mul, d_add, d_sub, d_wrap, d_tdiv, d_mx, hE, fnsf0, fnsf1, fnsf2, fnsf3, fnsf4, fnsf5, fnsf6, fnsf7, fnsf8, fnsf9] at hf r2
             omega)
          | (have r1 := pRate_ok (cw := E.i 14) (sst := E.i 15) k3
             simp only [p0e0, p0e1, p0e2, p0e3, p0e4, p0e5, p0e6, p0e7, p0e8, p0e9, p0e10, p0e11, p0e12, p0e13, p0e14, p0e15, p0e16, p0e17, p0e18, p0e19, p0e20, p0e21, p0e22, p0e23, p0e24, p0e25, p0e26, p0e27, p0e28, p0e29, p0e30, p0e31, p0e32, p0e33, p0e34, p0e35, p0e36, p0e37, p0e38, p0e39, p0e40, p0e41, p0e42, p0e43, p0e44, p0e45, p0e46, p0e47, p0e48, p0e49, p0e50, p0e51, p0e52, p0e53, p0e54, d_c, d_v, d_ap, d_sli, d_slnil, d_bv, d_bc, d_mul, d_add, d_sub, d_wrap, d_tdiv, d_mx, hE, fnsf0, fnsf1, fnsf2, fnsf3, fnsf4, fnsf5, fnsf6, fnsf7, fnsf8, fnsf9] at hf
             omega)
          | (have r0 := winR_ok (cw := E.i 14) (sz := E.i 1) k3 (by omega)
             have r1 := pRate_ok (cw := winR (E.i 14) (E.i 1)) (sst := winR (E.i 14) (E.i 1)) (by omega)
             simp only [p0e0, p0e1, p0e2, p0e3, p0e4, p0e5, p0e6, p0e7, p0e8, p0e9, p0e10, p0e11, p0e12, p0e13, p0e14, p0e15, p0e16, p0e17, p0e18, p0e19, p0e20, p0e21, p0e22, p0e23, p0e24, p0e25, p0e26, p0e27, p0e28, p0e29, p0e30, p0e31, p0e32, p0e33, p0e34, p0e35, p0e36, p0e37, p0e38, p0e39, p0e40, p0e41, p0e42, p0e43, p0e44, p0e45, p0e46, p0e47, p0e48, p0e49, p0e50, p0e51, p0e52, p0e53, p0e54, d_c, d_v, d_ap, d_sli, d_slnil, d_bv, d_bc, d_mul, d_add, d_sub, d_wrap, d_tdiv, d_mx, hE, fnsf0, fnsf1, fnsf2, fnsf3, fnsf4, fnsf5, fnsf6, fnsf7, fnsf8, fnsf9] at hf
             omega)
          | (have r0 := winC_ok (cw := E.i 14) (sz := E.i 1) k3 (by omega)
             have r1 := pRate_ok (cw := winC (E.i 14) (E.i 1)) (sst := winC (E.i 14) (E.i 1)) (by omega)
             simp only [p0e0, p0e1, p0e2, p0e3, p0e4, p0e5, p0e6, p0e7, p0e8, p0e9, p0e10, p0e11, p0e12, p0e13, p0e14, p0e15, p0e16, p0e17, p0e18, p0e19, p0e20, p0e21, p0e22, p0e23, p0e24, p0e25, p0e26, p0e27, p0e28, p0e29, p0e30, p0e31, p0e32, p0e33, p0e34, p0e35, p0e36, p0e37, p0e38, p0e39, p0e40, p0e41, p0e42, p0e43, p0e44, p0e45, p0e46, p0e47, p0e48, p0e49, p0e50, p0e51, p0e52, p0e53, p0e54, d_c, d_v, d_ap, d_sli, d_slnil, d_bv, d_bc, d_mul, d_add, d_sub, d_wrap, d_tdiv, d_mx, hE, fnsf0, fnsf1, fnsf2, fnsf3, fnsf4, fnsf5, fnsf6, fnsf7, fnsf8, fnsf9] at hf
             omega)
          | (have r1 := pRate_ok (cw := E.i 1 * 2) (sst := E.i 14 / 2) (by omega)
             simp only [p0e0, p0e1, p0e2, p0e3, p0e4, p0e5, p0e6, p0e7, p0e8, p0e9, p0e10, p0e11, p0e12, p0e13, p0e14, p0e15, p0e16, p0e17, p0e18, p0e19, p0e20, p0e21, p0e22, p0e23, p0e24, p0e25, p0e26, p0e27, p0e28, p0e29, p0e30, p0e31, p0e32, p0e33, p0e34, p0e35, p0e36, p0e37, p0e38, p0e39, p0e40, p0e41, p0e42, p0e43, p0e44, p0e45, p0e46, p0e47, p0e48, p0e49, p0e50, p0e51, p0e52, p0e53, p0e54, d_c, d_v, d_ap, d_sli, d_slnil, d_bv, d_bc, d_mul, d_add, d_sub, d_wrap, d_tdiv, d_mx, hE, fnsf0, fnsf1, fnsf2, fnsf3, fnsf4, fnsf5, fnsf6, fnsf7, fnsf8, fnsf9, hhalf] at hf
             omega)
      · -- p0x51
        intro hf
        skip
        simp only [facts_cons, facts_nil, lt_t, lt_f, le_t, le_f, eq_t, eq_f, and_true, d_c, d_v, d_bv] at hf
        have hs := hstep (by omega)
        obtain ⟨hs1, hs2⟩ := hs
        change (_ ∧ _) ∨ (_ ∧ E.i 14 ≤ 190000 ∧ E.i 13 = -1 ∧ E.i 15 = 4611686018427387903) ∨ (_ ∧ _) ∨ _ at hs2
        first
          | omega
          | (have r1 := pRate_ok (cw := E.i 14) (sst := E.i 15) k3
             have r2 := pRate_ok (cw := ackCw (E.i 14) (p0e5.den E) (E.i 1)) (sst := E.i 15) (ackCw_ok (by omega) (by omega))
             simp only [p0e0, p0e1, p0e2, p0e3, p0e4, p0e5, p0e6, p0e7, p0e8, p0e9, p0e10, p0e11, p0e12, p0e13, p0e14, p0e15, p0e16, p0e17, p0e18, p0e19, p0e20, p0e21, p0e22, p0e23, p0e24, p0e25, p0e26, p0e27, p0e28, p0e29, p0e30, p0e31, p0e32, p0e33, p0e34, p0e35, p0e36, p0e37, p0e38, p0e39, p0e40, p0e41, p0e42, p0e43, p0e44, p0e45, p0e46, p0e47, p0e48, p0e49, p0e50, p0e51, p0e52, p0e53, p0e54, d_c, d_v, d_ap, d_sli, d_slnil, d_bv, d_bc, d_mul, d_add, d_sub, d_wrap, d_tdiv, d_mx, hE, fnsf0, fnsf1, fnsf2, fnsf3, fnsf4, fnsf5, fnsf6, fnsf7, fnsf8, fnsf9] at hf r2
             omega)
          | (have r1 := pRate_ok (cw := E.i 14) (sst := E.i 15) k3
             simp only [p0e0, p0e1, p0e2, p0e3, p0e4, p0e5, p0e6, p0e7, p0e8, p0e9, p0e10, p0e11, p0e12, p0e13, p0e14, p0e15, p0e16, p0e17, p0e18, p0e19, p0e20, p0e21, p0e22, p0e23, p0e24, p0e25, p0e26, p0e27, p0e28, p0e29, p0e30, p0e31, p0e32, p0e33, p0e34, p0e35, p0e36, p0e37, p0e38, p0e39, p0e40, p0e41, p0e42, p0e43, p0e44, p0e45, p0e46, p0e47, p0e48, p0e49, p0e50, p0e51, p0e52, p0e53, p0e54, d_c, d_v, d_ap, d_sli, d_slnil, d_bv, d_bc, d_mul, d_add, d_sub, d_wrap, d_tdiv, d_mx, hE, fnsf0, fnsf1, fnsf2, fnsf3, fnsf4, fnsf5, fnsf6, fnsf7, fnsf8, fnsf9] at hf
             omega)
          | (have r0 := winR_ok (cw := E.i 14) (sz := E.i 1) k3 (by omega)
             have r1 := pRate_ok (cw := winR (E.i 14) (E.i 1)) (sst := winR (E.i 14) (E.i 1)) (by omega)
             simp only [p0e0, p0e1, p0e2, p0e3, p0e4, p0e5, p0e6, p0e7, p0e8, p0e9, p0e10, p0e11, p0e12, p0e13, p0e14, p0e15, p0e16, p0e17, p0e18, p0e19, p0e20, p0e21, p0e22, p0e23, p0e24, p0e25, p0e26, p0e27, p0e28, p0e29, p0e30, p0e31, p0e32, p0e33, p0e34, p0e35, p0e36, p0e37, p0e38, p0e39, p0e40, p0e41, p0e42, p0e43, p0e44, p0e45, p0e46, p0e47, p0e48, p0e49, p0e50, p0e51, p0e52, p0e53, p0e54, d_c, d_v, d_ap, d_sli, d_slnil, d_bv, d_bc, d_mul, d_add, d_sub, d_wrap, d_tdiv, d_mx, hE, fnsf0, fnsf1, fnsf2, fnsf3, fnsf4, fnsf5, fnsf6, fnsf7, fnsf8, fnsf9] at hf
             omega)
          | (have r0 := winC_ok (cw := E.i 14) (sz := E.i 1) k3 (by omega)
             have r1 := pRate_ok (cw := winC (E.i 14) (E.i 1)) (sst := winC (E.i 14) (E.i 1)) (by omega)
             simp only [p0e0, p0e1, p0e2, p0e3, p0e4, p0e5, p0e6, p0e7, p0e8, p0e9, p0e10, p0e11, p0e12, p0e13, p0e14, p0e15, p0e16, p0e17, p0e18, p0e19, p0e20, p0e21, p0e22, p0e23, p0e24, p0e25, p0e26, p0e27, p0e28, p0e29, p0e30, p0e31, p0e32, p0e33, p0e34, p0e35, p0e36, p0e37, p0e38, p0e39, p0e40, p0e41, p0e42, p0e43, p0e44, p0e45, p0e46, p0e47, p0e48, p0e49, p0e50, p0e51, p0e52, p0e53, p0e54, d_c, d_v, d_ap, d_sli, d_slnil, d_bv, d_bc, d_mul, d_add, d_sub, d_wrap, d_tdiv, d_mx, hE, fnsf0, fnsf1, fnsf2, fnsf3, fnsf4, fnsf5, fnsf6, fnsf7, fnsf8, fnsf9] at hf
             omega)
          | (have r1 := pRate_ok (cw := E.i 1 * 2) (sst := E.i 14 / 2) (by omega)
             simp only [p0e0, p0e1, p0e2, p0e3, p0e4, p0e5, p0e6, p0e7, p0e8, p0e9, p0e10, p0e11, p0e12, p0e13, p0e14, p0e15, p0e16, p0e17, p0e18, p0e19, p0e20, p0e21, p0e22, p0e23, p0e24, p0e25, p0e26, p0e27, p0e28, p0e29, p0e30, p0e31, p0e32, p0e33, p0e34, p0e35, p0e36, p0e37, p0e38, p0e39, p0e40, p0e41, p0e42, p0e43, p0e44, p0e45, p0e46, p0e47, p0e48, p0e49, p0e50, p0e51, p0e52, p0e53, p0e54, d_c, d_v, d_ap, d_sli, d_slnil, d_bv, d_bc, d_mul, d_add, d_sub, d_wrap, d_tdiv, d_mx, hE, fnsf0, fnsf1, fnsf2, fnsf3, fnsf4, fnsf5, fnsf6, fnsf7, fnsf8, fnsf9, hhalf] at hf
             omega)
      · -- p0x52
        intro hf
        skip
        simp only [facts_cons, facts_nil, lt_t, lt_f, le_t, le_f, eq_t, eq_f, and_true, d_c, d_v, d_bv] at hf
        have hs := hstep (by omega)
        obtain ⟨hs1, hs2⟩ := hs
        change (_ ∧ _) ∨ (_ ∧ E.i 14 ≤ 190000 ∧ E.i 13 = -1 ∧ E.i 15 = 4611686018427387903) ∨ (_ ∧ _) ∨ _ at hs2
        first
          | omega
          | (have r1 := pRate_ok (cw := E.i 14) (sst := E.i 15) k3
             have r2 := pRate_ok (cw := ackCw (E.i 14) (p0e5.den E) (E.i 1)) (sst := E.i 15) (ackCw_ok (by omega) (by omega))
             simp only [p0e0, p0e1, p0e2, p0e3, p0e4, p0e5, p0e6, p0e7, p0e8, p0e9, p0e10, p0e11, p0e12, p0e13, p0e14, p0e15, p0e16, p0e17, p0e18, p0e19, p0e20, p0e21, p0e22, p0e23, p0e24, p0e25, p0e26, p0e27, p0e28, p0e29, p0e30, p0e31, p0e32, p0e33, p0e34, p0e35, p0e36, p0e37, p0e38, p0e39, p0e40, p0e41, p0e42, p0e43, p0e44, p0e45, p0e46, p0e47, p0e48, p0e49, p0e50, p0e51, p0e52, p0e53, p0e54, d_c, d_v, d_ap, d_sli, d_slnil, d_bv, d_bc, d_mul, d_add, d_sub, d_wrap, d_tdiv, d_mx, hE, fnsf0, fnsf1, fnsf2, fnsf3, fnsf4, fnsf5, fnsf6, fnsf7, fnsf8, fnsf9] at hf r2
             omega)
          | (have r1 := pRate_ok (cw := E.i 14) (sst := E.i 15) k3
             simp only [p0e0, p0e1, p0e2, p0e3, p0e4, p0e5, p0e6, p0e7, p0e8, p0e9, p0e10, p0e11, p0e12, p0e13, p0e14, p0e15, p0e16, p0e17, p0e18, p0e19, p0e20, p0e21, p0e22, p0e23, p0e24, p0e25, p0e26, p0e27, p0e28, p0e29, p0e30, p0e31, p0e32, p0e33, p0e34, p0e35, p0e36, p0e37, p0e38, p0e39, p0e40, p0e41, p0e42, p0e43, p0e44, p0e45, p0e46, p0e47, p0e48, p0e49, p0e50, p0e51, p0e52, p0e53, p0e54, d_c, d_v, d_ap, d_sli, d_slnil, d_bv, d_bc, d_mul, d_add, d_sub, d_wrap, d_tdiv, d_mx, hE, fnsf0, fnsf1, fnsf2, fnsf3, fnsf4, fnsf5, fnsf6, fnsf7, fnsf8, fnsf9] at hf
             omega)
          | (have r0 := winR_ok (cw := E.i 14) (sz := E.i 1) k3 (by omega)
             have r1 := pRate_ok (cw := winR (E.i 14) (E.i 1)) (sst := winR (E.i 14) (E.i 1)) (by omega)
             simp only [p0e0, p0e1, p0e2, p0e3, p0e4, p0e5, p0e6, p0e7, p0e8, p0e9, p0e10, p0e11, p0e12, p0e13, p0e14, p0e15, p0e16, p0e17, p0e18, p0e19, p0e20, p0e21, p0e22, p0e23, p0e24, p0e25, p0e26, p0e27, p0e28, p0e29, p0e30, p0e31, p0e32, p0e33, p0e34, p0e35, p0e36, p0e37, p0e38, p0e39, p0e40, p0e41, p0e42, p0e43, p0e44, p0e45, p0e46, p0e47, p0e48, p0e49, p0e50, p0e51, p0e52, p0e53, p0e54, d_c, d_v, d_ap, d_sli, d_slnil, d_bv, d_bc, d_mul, d_add, d_sub, d_wrap, d_tdiv, d_mx, hE, fnsf0, fnsf1, fnsf2, fnsf3, fnsf4, fnsf5, fnsf6, fnsf7, fnsf8, fnsf9] at hf
             omega)
          | (have r0 := winC_ok (cw := E.i 14) (sz := E.i 1) k3 (by omega)
             have r1 := pRate_ok (cw := winC (E.i 14) (E.i 1)) (sst := winC (E.i 14) (E.i 1)) (by omega)
             simp only [p0e0, p0e1, p0e2, p0e3, p0e4, p0e5, p0e6, p0e7, p0e8, p0e9, p0e10, p0e11, p0e12, p0e13, p0e14, p0e15, p0e16, p0e17, p0e18, p0e19, p0e20, p0e21, p0e22, p0e23, p0e24, p0e25, p0e26, p0e27, p0e28, p0e29, p0e30, p0e31, p0e32, p0e33, p0e34, p0e35, p0e36, p0e37, p0e38, p0e39, p0e40, p0e41, p0e42, p0e43, p0e44, p0e45, p0e46, p0e47, p0e48, p0e49, p0e50, p0e51, p0e52, p0e53, p0e54, d_c, d_v, d_ap, d_sli, d_slnil, d_bv, d_bc, d_mul, d_add, d_sub, d_wrap, d_tdiv, d_mx, hE, fnsf0, fnsf1, fnsf2, fnsf3, fnsf4, fnsf5, fnsf6, fnsf7, fnsf8, fnsf9] at hf
             omega)
          | (have r1 := pRate_ok (cw := E.i 1 * 2) (sst := E.i 14 / 2) (by omega)
             simp only [p0e0, p0e1, p0e2, p0e3, p0e4, p0e5, p0e6, p0e7, p0e8, p0e9, p0e10, p0e11, p0e12, p0e13, p0e14, p0e15, p0e16, p0e17, p0e18, p0e19, p0e20, p0e21, p0e22, p0e23, p0e24, p0e25, p0e26, p0e27, p0e28, p0e29, p0e30, p0e31, p0e32, p0e33, p0e34, p0e35, p0e36, p0e37, p0e38, p0e39, p0e40, p0e41, p0e42, p0e43, p0e44, p0e45, p0e46, p0e47, p0e48, p0e49, p0e50, p0e51, p0e52, p0e53, p0e54, d_c, d_v, d_ap, d_sli, d_slnil, d_bv, d_bc, d_mul, d_add, d_sub, d_wrap, d_tdiv, d_mx, hE, fnsf0, fnsf1, fnsf2, fnsf3, fnsf4, fnsf5, fnsf6, fnsf7, fnsf8, fnsf9, hhalf] at hf
             omega)
      · -- p0x53
        intro hf
        skip
        simp only [facts_cons, facts_nil, lt_t, lt_f, le_t, le_f, eq_t, eq_f, and_true, d_c, d_v, d_bv] at hf
        have hs := hstep (by omega)
        obtain ⟨hs1, hs2⟩ := hs
        change (_ ∧ _) ∨ (_ ∧ E.i 14 ≤ 190000 ∧ E.i 13 = -1 ∧ E.i 15 = 4611686018427387903) ∨ (_ ∧ _) ∨ _ at hs2
        first
          | omega
          | (have r1 := pRate_ok (cw := E.i 14) (sst := E.i 15) k3
             have r2 := pRate_ok (cw := ackCw (E.i 14) (p0e5.den E) (E.i 1)) (sst := E.i 15) (ackCw_ok (by omega) (by omega))
             simp only [p0e0, p0e1, p0e2, p0e3, p0e4, p0e5, p0e6, p0e7, p0e8, p0e9, p0e10, p0e11, p0e12, p0e13, p0e14, p0e15, p0e16, p0e17, p0e18, p0e19, p0e20, p0e21, p0e22, p0e23, p0e24, p0e25, p0e26, p0e27, p0e28, p0e29, p0e30, p0e31, p0e32, p0e33, p0e34, p0e35, p0e36, p0e37, p0e38, p0e39, p0e40, p0e41, p0e42, p0e43, p0e44, p0e45, p0e46, p0e47, p0e48, p0e49, p0e50, p0e51, p0e52, p0e53, p0e54, d_c, d_v, d_ap, d_sli, d_slnil, d_bv, d_bc, d_mul, d_add, d_sub, d_wrap, d_tdiv, d_mx, hE, fnsf0, fnsf1, fnsf2, fnsf3, fnsf4, fnsf5, fnsf6, fnsf7, fnsf8, fnsf9] at hf r2
             omega)
          | (have r1 := pRate_ok (cw := E.i 14) (sst := E.i 15) k3
             simp only [p0e0, p0e1, p0e2, p0e3, p0e4, p0e5, p0e6, p0e7, p0e8, p0e9, p0e10, p0e11, p0e12, p0e13, p0e14, p0e15, p0e16, p0e17, p0e18, p0e19, p0e20, p0e21, p0e22, p0e23, p0e24, p0e25, p0e26, p0e27, p0e28, p0e29, p0e30, p0e31, p0e32, p0e33, p0e34, p0e35, p0e36, p0e37, p0e38, p0e39, p0e40, p0e41, p0e42, p0e43, p0e44, p0e45, p0e46, p0e47, p0e48, p0e49, p0e50, p0e51, p0e52, p0e53, p0e54, d_c, d_v, d_ap, d_sli, d_slnil, d_bv, d_bc, d_mul, d_add, d_sub, d_wrap, d_tdiv, d_mx, hE, fnsf0, fnsf1, fnsf2, fnsf3, fnsf4, fnsf5, fnsf6, fnsf7, fnsf8, fnsf9] at hf
             omega)
          | (have r0 := winR_ok (cw := E.i 14) (sz := E.i 1) k3 (by omega)
             have r1 := pRate_ok (cw := winR (E.i 14) (E.i 1)) (sst := winR (E.i 14) (E.i 1)) (by omega)
             simp only [p0e0, p0e1, p0e2, p0e3, p0e4, p0e5, p0e6, p0e7, p0e8, p0e9, p0e10, p0e11, p0e12, p0e13, p0e14, p0e15, p0e16, p0e17, p0e18, p0e19, p0e20, p0e21, p0e22, p0e23, p0e24, p0e25, p0e26, p0e27, p0e28, p0e29, p0e30, p0e31, p0e32, p0e33, p0e34, p0e35, p0e36, p0e37, p0e38, p0e39, p0e40, p0e41, p0e42, p0e43, p0e44, p0e45, p0e46, p0e47, p0e48, p0e49, p0e50, p0e51, p0e52, p0e53, p0e54, d_c, d_v, d_ap, d_sli, d_slnil, d_bv, d_bc, d_mul, d_add, d_sub, d_wrap, d_tdiv, d_mx, hE, fnsf0, fnsf1, fnsf2, fnsf3, fnsf4, fnsf5, fnsf6, fnsf7, fnsf8, fnsf9] at hf
             omega)
          | (have r0 := winC_ok (cw := E.i 14) (sz := E.i 1) k3 (by omega)
             have r1 := pRate_ok (cw := winC (E.i 14) (E.i 1)) (sst := winC (E.i 14) (E.i 1)) (by omega)
             simp only [p0e0, p0e1, p0e2, p0e3, p0e4, p0e5, p0e6, p0e7, p0e8, p0e9, p0e10, p0e11, p0e12, p0e13, p0e14, p0e15, p0e16, p0e17, p0e18, p0e19, p0e20, p0e21, p0e22, p0e23, p0e24, p0e25, p0e26, p0e27, p0e28, p0e29, p0e30, p0e31, p0e32, p0e33, p0e34, p0e35, p0e36, p0e37, p0e38, p0e39, p0e40, p0e41, p0e42, p0e43, p0e44, p0e45, p0e46, p0e47, p0e48, p0e49, p0e50, p0e51, p0e52, p0e53, p0e54, d_c, d_v, d_ap, d_sli, d_slnil, d_bv, d_bc, d_mul, d_add, d_sub, d_wrap, d_tdiv, d_mx, hE, fnsf0, fnsf1, fnsf2, fnsf3, fnsf4, fnsf5, fnsf6, fnsf7, fnsf8, fnsf9] at hf
             omega)
          | (have r1 := pRate_ok (cw := E.i 1 * 2) (sst := E.i 14 / 2) (by omega)
             simp only [p0e0, p0e1, p0e2, p0e3, p0e4, p0e5, p0e6, p0e7, p0e8, p0e9, p0e10, p0e11, p0e12, p0e13, p0e14, p0e15, p0e16, p0e17, p0e18, p0e19, p0e20, p0e21, p0e22, p0e23, p0e24, p0e25, p0e26, p0e27, p0e28, p0e29, p0e30, p0e31, p0e32, p0e33, p0e34, p0e35, p0e36, p0e37, p0e38, p0e39, p0e40, p0e41, p0e42, p0e43, p0e44, p0e45, p0e46, p0e47, p0e48, p0e49, p0e50, p0e51, p0e52, p0e53, p0e54, d_c, d_v, d_ap, d_sli, d_slnil, d_bv, d_bc, d_mul, d_add, d_sub, d_wrap, d_tdiv, d_mx, hE, fnsf0, fnsf1, fnsf2, fnsf3, fnsf4, fnsf5, fnsf6, fnsf7, fnsf8, fnsf9, hhalf] at hf
             omega)
      · -- p0x54
        intro hf
        skip
        simp only [facts_cons, facts_nil, lt_t, lt_f, le_t, le_f, eq_t, eq_f, and_true, d_c, d_v, d_bv] at hf
        have hs := hstep (by omega)
        obtain ⟨hs1, hs2⟩ := hs
        change (_ ∧ _) ∨ (_ ∧ E.i 14 ≤ 190000 ∧ E.i 13 = -1 ∧ E.i 15 = 4611686018427387903) ∨ (_ ∧ _) ∨ _ at hs2
        first
          | omega
          | (have r1 := pRate_ok (cw := E.i 14) (sst := E.i 15) k3
             have r2 := pRate_ok (cw := ackCw (E.i 14) (p0e5.den E) (E.i 1)) (sst := E.i 15) (ackCw_ok (by omega) (by omega))
             simp only [p0e0, p0e1, p0e2, p0e3, p0e4, p0e5, p0e6, p0e7, p0e8, p0e9, p0e10, p0e11, p0e12, p0e13, p0e14, p0e15, p0e16, p0e17, p0e18, p0e19, p0e20, p0e21, p0e22, p0e23, p0e24, p0e25, p0e26, p0e27, p0e28, p0e29, p0e30, p0e31, p0e32, p0e33, p0e34, p0e35, p0e36, p0e37, p0e38, p0e39, p0e40, p0e41, p0e42, p0e43, p0e44, p0e45, p0e46, p0e47, p0e48, p0e49, p0e50, p0e51, p0e52, p0e53, p0e54, d_c, d_v, d_ap, d_sli, d_slnil, d_bv, d_bc, d_mul, d_add, d_sub, d_wrap, d_tdiv, d_mx, hE, fnsf0, fnsf1, fnsf2, fnsf3, fnsf4, fnsf5, fnsf6, fnsf7, fnsf8, fnsf9] at hf r2
             omega)
          | (have r1 := pRate_ok (cw := E.i 14) (sst := E.i 15) k3
             simp only [p0e0, p0e1, p0e2, p0e3, p0e4, p0e5, p0e6, p0e7, p0e8, p0e9, p0e10, p0e11, p0e12, p0e13, p0e14, p0e15, p0e16, p0e17, p0e18, p0e19, p0e20, p0e21, p0e22, p0e23, p0e24, p0e25, p0e26, p0e27, p0e28, p0e29, p0e30, p0e31, p0e32, p0e33, p0e34, p0e35, p0e36, p0e37, p0e38, p0e39, p0e40, p0e41, p0e42, p0e43, p0e44, p0e45, p0e46, p0e47, p0e48, p0e49, p0e50, p0e51, p0e52, p0e53, p0e54, d_c, d_v, d_ap, d_sli, d_slnil, d_bv, d_bc, d_mul, d_add, d_sub, d_wrap, d_tdiv, d_mx, hE, fnsf0, fnsf1, fnsf2, fnsf3, fnsf4, fnsf5, fnsf6, fnsf7, fnsf8, fnsf9] at hf
             omega)
          | (have r0 := winR_ok (cw := E.i 14) (sz := E.i 1) k3 (by omega)
             have r1 := pRate_ok (cw := winR (E.i 14) (E.i 1)) (sst := winR (E.i 14) (E.i 1)) (by omega)
             simp only [p0e0, p0e1, p0e2, p0e3, p0e4, p0e5, p0e6, p0e7, p0e8, p0e9, p0e10, p0e11, p0e12, p0e13, p0e14, p0e15, p0e16, p0e17, p0e18, p0e19, p0e20, p0e21, p0e22, p0e23, p0e24, p0e25, p0e26, p0e27, p0e28, p0e29, p0e30, p0e31, p0e32, p0e33, p0e34, p0e35, p0e36, p0e37, p0e38, p0e39, p0e40, p0e41, p0e42, p0e43, p0e44, p0e45, p0e46, p0e47, p0e48, p0e49, p0e50, p0e51, p0e52, p0e53, p0e54, d_c, d_v, d_ap, d_sli, d_slnil, d_bv, d_bc, d_mul, d_add, d_sub, d_wrap, d_tdiv, d_mx, hE, fnsf0, fnsf1, fnsf2, fnsf3, fnsf4, fnsf5, fnsf6, fnsf7, fnsf8, fnsf9] at hf
             omega)
          | (have r0 := winC_ok (cw := E.i 14) (sz := E.i 1) k3 (by omega)
             have r1 := pRate_ok (cw := winC (E.i 14) (E.i 1)) (sst := winC (E.i 14) (E.i 1)) (by omega)
             simp only [p0e0, p0e1, p0e2, p0e3, p0e4, p0e5, p0e6, p0e7, p0e8, p0e9, p0e10, p0e11, p0e12, p0e13, p0e14, p0e15, p0e16, p0e17, p0e18, p0e19, p0e20, p0e21, p0e22, p0e23, p0e24, p0e25, p0e26, p0e27, p0e28, p0e29, p0e30, p0e31, p0e32, p0e33, p0e34, p0e35, p0e36, p0e37, p0e38, p0e39, p0e40, p0e41, p0e42, p0e43, p0e44, p0e45, p0e46, p0e47, p0e48, p0e49, p0e50, p0e51, p0e52, p0e53, p0e54, d_c, d_v, d_ap, d_sli, d_slnil, d_bv, d_bc, d_mul, d_add, d_sub, d_wrap, d_tdiv, d_mx, hE, fnsf0, fnsf1, fnsf2, fnsf3, fnsf4, fnsf5, fnsf6, fnsf7, fnsf8, fnsf9] at hf
             omega)
          | (have r1 := pRate_ok (cw := E.i 1 * 2) (sst := E.i 14 / 2) (by omega)
             simp only [p0e0, p0e1, p0e2, p0e3, p0e4, p0e5, p0e6, p0e7, p0e8, p0e9, p0e10, p0e11, p0e12, p0e13, p0e14, p0e15, p0e16, p0e17, p0e18, p0e19, p0e20, p0e21, p0e22, p0e23, p0e24, p0e25, p0e26, p0e27, p0e28, p0e29, p0e30, p0e31, p0e32, p0e33, p0e34, p0e35, p0e36, p0e37, p0e38, p0e39, p0e40, p0e41, p0e42, p0e43, p0e44, p0e45, p0e46, p0e47, p0e48, p0e49, p0e50, p0e51, p0e52, p0e53, p0e54, d_c, d_v, d_ap, d_sli, d_slnil, d_bv, d_bc, d_mul, d_add, d_sub, d_wrap, d_tdiv, d_mx, hE, fnsf0, fnsf1, fnsf2, fnsf3, fnsf4, fnsf5, fnsf6, fnsf7, fnsf8, fnsf9, hhalf] at hf
             omega)
      · intro hf
        have hlt := hf (SB.lt (.v 3) (.v 2), false) (by simp)
        simp only [lt_f, d_v] at hlt
        refine ⟨rfl, ?_⟩
        have hin : E0.i 2 = i := by omega
        simp only [List.forall_mem_cons, List.not_mem_nil, false_imp_iff, implies_true, and_true, Eqn.ok]
        refine ⟨fun j _ => by rw [d_av, d_av, hI.ha], h2, fun j hj => ?_, by rw [d_v, d_v]; omega⟩
        simp only [d_v, hin] at hj
        rw [d_av, hI.row j (by omega)]
        show _ = E0.fn.a 0 [.i (b2i (E0.b 0)), .i (E0.i 1), .a ((AE.v 0).den E0)] j
        rw [hE0]; rfl
end Go.Proofs.Ytlclcnkmdbmceaa
