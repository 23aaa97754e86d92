/- RTPlay keeps its contract. -/
import Derived.Test.YtiadjdnipheghaaRmU
import Derived.KernelRfl
set_option linter.unusedVariables false
set_option linter.unusedSimpArgs false
set_option maxRecDepth 100000
set_option maxHeartbeats 4000000
namespace Go.Proofs.Ytiadjdnipheghaa
open Go Go.Sy Go.RowKit

noncomputable def pax0 : Vl := .go 0 [(0, (.v 0)), (5, (.c 0)), (4, (.c 100000000)), (3, (.c 100000000)), (2, (.c 100000000)), (7, (.c 0)), (1, (.v 1))] [(0, (.c false))] [(0, (.v 0))] [((.le (.c 0) (.v 0)), true), ((.le (.v 0) (.c 1000000000)), true), ((.le (.c 0) (.v 1)), true), ((.le (.v 1) (.c 1000)), true), ((.ap 0 (.a (.v 0) (.i (.v 1) .nil))), true)] (.code (.loop (loopB (prm4 Try.prog).P 4 4))) (loopK (prm4 Try.prog).P 4 4)
noncomputable def pals : List Vl := [pax0]
theorem parun : (run (prm4 Try.prog) 600 (enterD (prm4 Try.prog) ct4)).map (vOf (prm4 Try.prog) ct4 (pts4 Try.prog)) = pals := by kernel_rfl
-- 1 ways; terms: 

noncomputable def p0e0 : SE := .mul (.v 7) (.c 2)
noncomputable def p0e1 : SE := .rd (.v 0) p0e0
noncomputable def p0e2 : SE := .add p0e0 (.c 1)
noncomputable def p0e3 : SE := .rd (.v 0) p0e2
noncomputable def p0e4 : SE := .ap 3 (.b (.v 0) (.i (.v 2) (.i (.v 4) (.i (.v 5) (.i p0e1 (.i p0e3 .nil))))))
noncomputable def p0e5 : SE := .ap 2 (.b (.v 0) (.i (.v 2) (.i (.v 4) (.i p0e1 (.i p0e3 .nil)))))
noncomputable def p0e6 : SE := .ap 1 (.b (.v 0) (.i (.v 2) (.i p0e1 (.i p0e3 .nil))))
noncomputable def p0e7 : SE := .ap 0 (.b (.v 0) (.i (.v 2) (.i p0e1 .nil)))
noncomputable def p0e8 : SE := .add (.v 7) (.c 1)
noncomputable def p0e9 : SE := .mul (.v 7) (.c 6)
noncomputable def p0e10 : SE := .mul (.c 4) p0e4
noncomputable def p0e11 : SE := .mx p0e10 (.c 1000000)
noncomputable def p0e12 : SE := .add p0e5 p0e11
noncomputable def p0e13 : SE := .add p0e12 (.v 0)
noncomputable def p0e14 : AE := .tl (.v 1) p0e9 (.i p0e5 (.i p0e6 (.i p0e7 (.i p0e4 (.i p0e12 (.i p0e13 .nil))))))
noncomputable def p0e15 : AE := .ap 0 (.i (.v 0) (.a (.v 0) .nil))
noncomputable def p0x0 : Vl := .go 0 [(0, (.v 0)), (5, p0e4), (4, p0e5), (3, p0e6), (2, p0e7), (7, p0e8), (1, (.v 1))] [(0, (.c true))] [(1, p0e14), (0, (.v 0))] [((.le (.c 1) p0e7), true), ((.le p0e7 (.c 2000000000)), true), ((.le (.c 0) p0e5), true), ((.le p0e5 (.c 2000000000)), true), ((.le (.c 0) p0e4), true), ((.le p0e4 (.c 2000000000)), true), ((.le p0e3 (.c 100000000)), true), ((.le (.c 0) p0e3), true), ((.le p0e1 (.c 2000000000)), true), ((.le (.c 1000) p0e1), true), ((.lt (.v 7) (.v 1)), true), ((.le (.c 0) (.v 0)), true), ((.le (.v 0) (.c 1000000000)), true), ((.le (.c 0) (.v 1)), true), ((.le (.v 1) (.c 1000)), true), ((.le (.c 0) (.v 7)), true), ((.le (.v 7) (.c 1000)), true), ((.le (.c 1) (.v 2)), true), ((.le (.v 2) (.c 2000000000)), true), ((.le (.c 0) (.v 4)), true), ((.le (.v 4) (.c 2000000000)), true), ((.le (.c 0) (.v 5)), true), ((.le (.v 5) (.c 2000000000)), true)] (.exit .normal) (.loop (loopB (prm4 Try.prog).P 4 4) :: loopK (prm4 Try.prog).P 4 4)
noncomputable def p0x1 : Vl := .dead [((.le p0e3 (.c 100000000)), false), ((.le (.c 0) p0e3), true), ((.le p0e1 (.c 2000000000)), true), ((.le (.c 1000) p0e1), true), ((.lt (.v 7) (.v 1)), true), ((.le (.c 0) (.v 0)), true), ((.le (.v 0) (.c 1000000000)), true), ((.le (.c 0) (.v 1)), true), ((.le (.v 1) (.c 1000)), true), ((.le (.c 0) (.v 7)), true), ((.le (.v 7) (.c 1000)), true), ((.le (.c 1) (.v 2)), true), ((.le (.v 2) (.c 2000000000)), true), ((.le (.c 0) (.v 4)), true), ((.le (.v 4) (.c 2000000000)), true), ((.le (.c 0) (.v 5)), true), ((.le (.v 5) (.c 2000000000)), true)]
noncomputable def p0x2 : Vl := .dead [((.le (.c 0) p0e3), false), ((.le p0e1 (.c 2000000000)), true), ((.le (.c 1000) p0e1), true), ((.lt (.v 7) (.v 1)), true), ((.le (.c 0) (.v 0)), true), ((.le (.v 0) (.c 1000000000)), true), ((.le (.c 0) (.v 1)), true), ((.le (.v 1) (.c 1000)), true), ((.le (.c 0) (.v 7)), true), ((.le (.v 7) (.c 1000)), true), ((.le (.c 1) (.v 2)), true), ((.le (.v 2) (.c 2000000000)), true), ((.le (.c 0) (.v 4)), true), ((.le (.v 4) (.c 2000000000)), true), ((.le (.c 0) (.v 5)), true), ((.le (.v 5) (.c 2000000000)), true)]
noncomputable def p0x3 : Vl := .dead [((.le p0e1 (.c 2000000000)), false), ((.le (.c 1000) p0e1), true), ((.lt (.v 7) (.v 1)), true), ((.le (.c 0) (.v 0)), true), ((.le (.v 0) (.c 1000000000)), true), ((.le (.c 0) (.v 1)), true), ((.le (.v 1) (.c 1000)), true), ((.le (.c 0) (.v 7)), true), ((.le (.v 7) (.c 1000)), true), ((.le (.c 1) (.v 2)), true), ((.le (.v 2) (.c 2000000000)), true), ((.le (.c 0) (.v 4)), true), ((.le (.v 4) (.c 2000000000)), true), ((.le (.c 0) (.v 5)), true), ((.le (.v 5) (.c 2000000000)), true)]
noncomputable def p0x4 : Vl := .dead [((.le (.c 1000) p0e1), false), ((.lt (.v 7) (.v 1)), true), ((.le (.c 0) (.v 0)), true), ((.le (.v 0) (.c 1000000000)), true), ((.le (.c 0) (.v 1)), true), ((.le (.v 1) (.c 1000)), true), ((.le (.c 0) (.v 7)), true), ((.le (.v 7) (.c 1000)), true), ((.le (.c 1) (.v 2)), true), ((.le (.v 2) (.c 2000000000)), true), ((.le (.c 0) (.v 4)), true), ((.le (.v 4) (.c 2000000000)), true), ((.le (.c 0) (.v 5)), true), ((.le (.v 5) (.c 2000000000)), true)]
noncomputable def p0x5 : Vl := .out 0 [.a (.v 0) (.v 0) (.v 1) 2, .i (.v 1) (.v 1), .a (.v 1) p0e15 (.v 1) 6, .i (.v 7) (.v 1)] [((.lt (.v 7) (.v 1)), false), ((.le (.c 0) (.v 0)), true), ((.le (.v 0) (.c 1000000000)), true), ((.le (.c 0) (.v 1)), true), ((.le (.v 1) (.c 1000)), true), ((.le (.c 0) (.v 7)), true), ((.le (.v 7) (.c 1000)), true), ((.le (.c 1) (.v 2)), true), ((.le (.v 2) (.c 2000000000)), true), ((.le (.c 0) (.v 4)), true), ((.le (.v 4) (.c 2000000000)), true), ((.le (.c 0) (.v 5)), true), ((.le (.v 5) (.c 2000000000)), true)]
noncomputable def p0ls : List Vl := [p0x0, p0x1, p0x2, p0x3, p0x4, p0x5]
theorem p0run : (run (prm4 Try.prog) 900 (ptD (pts4 Try.prog) 0 4)).map (vOf (prm4 Try.prog) ct4 (pts4 Try.prog)) = p0ls := by kernel_rfl
-- 6 ways; terms: p0e0, p0e1, p0e2, p0e3, p0e4, p0e5, p0e6, p0e7, p0e8, p0e9, p0e10, p0e11, p0e12, p0e13, p0e14, p0e15


theorem prm4_ok (E : Env) (hE : E.fn = fns) : PrmOk E (prm4 Try.prog) where
  ct := by
    intro c hc
    have : c = ct9 := by simpa [prm4] using hc
    subst this; rw [hE]; exact ct9_ok
  mix := Checked.mixed Try.checked
  okf := okf_call
  body := okf_body
  mts := by intro x hx; cases hx
  dfr := by intro x hx; cases hx
  dfk := by intro x hx; cases hx
structure I4 (E0 E : Env) (i : Nat) : Prop where
  h7 : E.i 7 = i
  le : (i : Int) ≤ E0.i 1
  h0 : E.i 0 = E0.i 0
  h1 : E.i 1 = E0.i 1
  ha : E.a 0 = E0.a 0
  b0 : E.b 0 = (rAt (E0.a 0) i).has
  h2 : E.i 2 = (rAt (E0.a 0) i).mn
  h3 : E.i 3 = (rAt (E0.a 0) i).lat
  h4 : E.i 4 = (rAt (E0.a 0) i).sm
  h5 : E.i 5 = (rAt (E0.a 0) i).dev
  row : ∀ j, j < i * 6 → E.a 1 j = outA (E0.a 0) (E0.i 0) j
theorem pre4 {E0 : Env} (hE : E0.fn = fns) (hF : Facts E0 ct4.pre) : (0 ≤ E0.i 0 ∧ E0.i 0 ≤ 1000000000) ∧ (0 ≤ E0.i 1 ∧ E0.i 1 ≤ 1000) ∧ stOk (E0.a 0) (E0.i 1).toNat := by
  have hF' : Facts E0 [((.le (.c 0) (.v 0)), true), ((.le (.v 0) (.c 1000000000)), true), ((.le (.c 0) (.v 1)), true), ((.le (.v 1) (.c 1000)), true), ((.ap 0 (.a (.v 0) (.i (.v 1) .nil))), true)] := hF
  simp only [facts_cons, facts_nil, le_t, d_c, d_v, and_true] at hF'
  obtain ⟨a, b, c, d, e⟩ := hF'
  refine ⟨⟨a, b⟩, ⟨c, d⟩, ?_⟩
  have e' : E0.fn.g 0 [.a ((AE.v 0).den E0), .i (E0.i 1)] = true := e
  rw [hE] at e'
  have e2 : @decide (stOk ((AE.v 0).den E0) (E0.i 1).toNat) (Classical.propDecidable _) = true := e'
  exact @of_decide_eq_true _ (Classical.propDecidable _) e2
theorem tl6 {E : Env} {i : Nat} (h7 : E.i 7 = i) (l : SL) (j : Nat) : (AE.tl (.v 1) p0e9 l).den E j = if j < i * 6 then E.a 1 j else l.nth E (j - i * 6) := by
  have : (p0e9.den E).toNat = i * 6 := by simp only [p0e9, d_mul, d_v, d_c, h7]; omega
  simp only [AE.den, this]
theorem ct4_ok : CtOk Try.prog fns ct4 := by
  refine ct_of_pts (p := prm4 Try.prog) (pts := pts4 Try.prog) (n := 900) (c0 := enterD (prm4 Try.prog) ct4) (fun E hE => prm4_ok E hE) rfl (by intro q hq; cases hq) Try.func4 (by kernel_rfl) ?_ (fun E0 _ E => ∃ i, I4 E0 E i) (fun E0 _ E => (E0.i 1 - E.i 7).toNat) pals (by kernel_rfl) ?_ ?_
  · intro t ht
    simp only [pts4, List.mem_cons, List.not_mem_nil, or_false] at ht
    subst ht
    exact ⟨by kernel_rfl, by decide⟩
  · intro E hE hF
    obtain ⟨b0, b1, hst⟩ := pre4 hE hF
    refine ⟨fun a ha => ?_, fun x hx => ?_⟩
    · obtain rfl := Option.some.inj ha; intro q hq; cases hq
    · unfold pals at hx
      simp only [List.mem_cons, List.not_mem_nil, or_false] at hx
      subst hx
      intro hf
      exact ⟨⟨_, rfl, .inl ⟨rfl, rfl⟩⟩, fun o => ⟨⟨0, rfl, by show (0 : Int) ≤ E.i 1; omega, rfl, rfl, rfl, rfl, rfl, rfl, rfl, rfl, fun j hj => by omega⟩, fun b hb => by cases hb⟩⟩
  · intro k t ht
    have hk : k = 0 := by
      have := (List.getElem?_eq_some_iff.1 ht).1
      simp [pts4] at this; omega
    subst hk
    refine ⟨p0ls, by rw [← ptD_some ht ct4.g]; exact p0run, fun E0 E hE0 hE hF0 ⟨i, hI⟩ => ?_⟩
    obtain ⟨⟨mad0, mad1⟩, ⟨n0, n1⟩, hst⟩ := pre4 hE0 hF0
    have hle := hI.le
    have hok := rAt_ok hst i (by omega)
    obtain ⟨⟨m0, m1⟩, ⟨q0, q1⟩, v0, v1⟩ := hok
    rw [← hI.h2] at m0 m1; rw [← hI.h4] at q0 q1; rw [← hI.h5] at v0 v1
    have h7 := hI.h7; have h0 := hI.h0; have h1 := hI.h1
    have hp0 : (p0e0.den E).toNat = 2 * i := by simp only [p0e0, d_mul, d_v, d_c, h7]; omega
    have hp2 : (p0e2.den E).toNat = 2 * i + 1 := by simp only [p0e2, p0e0, d_add, d_mul, d_v, d_c, h7]; omega
    have hp1 : p0e1.den E = E0.a 0 (2 * i) := by simp only [p0e1, d_rd, d_av, hp0, hI.ha]
    have hp3 : p0e3.den E = E0.a 0 (2 * i + 1) := by simp only [p0e3, d_rd, d_av, hp2, hI.ha]
    refine ⟨?_, fun x hx => ?_⟩
    · obtain rfl := Option.some.inj ht
      show Facts E [((.le (.c 0) (.v 0)), true), ((.le (.v 0) (.c 1000000000)), true), ((.le (.c 0) (.v 1)), true), ((.le (.v 1) (.c 1000)), true), ((.le (.c 0) (.v 7)), true), ((.le (.v 7) (.c 1000)), true), ((.le (.c 1) (.v 2)), true), ((.le (.v 2) (.c 2000000000)), true), ((.le (.c 0) (.v 4)), true), ((.le (.v 4) (.c 2000000000)), true), ((.le (.c 0) (.v 5)), true), ((.le (.v 5) (.c 2000000000)), true)]
      simp only [facts_cons, facts_nil, le_t, d_c, d_v, and_true]
      omega
    · unfold p0ls at hx
      simp only [List.mem_cons, List.not_mem_nil, or_false] at hx
      have hdead : (SB.lt (.v 7) (.v 1)).den E = true → (1000 ≤ p0e1.den E ∧ p0e1.den E ≤ 2000000000) ∧ 0 ≤ p0e3.den E ∧ p0e3.den E ≤ 100000000 := fun this => by
        simp only [lt_t, d_v] at this
        rw [hp1, hp3]
        exact hst i (by omega)
      rcases hx with rfl | rfl | rfl | rfl | rfl | rfl
      · -- the next round
        intro hf
        refine ⟨⟨_, rfl, .inr ⟨rfl, rfl⟩⟩, fun o => ?_⟩
        have hlt : E.i 7 < E.i 1 := by
          have := hf ((SB.lt (.v 7) (.v 1)), true) (by simp)
          simpa only [lt_t, d_v] using this
        have g0 : p0e7.den E = (rAt (E0.a 0) (i + 1)).mn := by
          show E.fn.f 0 [.i (b2i (E.b 0)), .i (E.i 2), .i (p0e1.den E)] = _
          rw [hE, hp1, hI.b0, hI.h2]
          show uMn (ab (b2i _)) _ _ = _
          rw [ab_b2i]; rfl
        have g1 : p0e6.den E = (rAt (E0.a 0) (i + 1)).lat := by
          show E.fn.f 1 [.i (b2i (E.b 0)), .i (E.i 2), .i (p0e1.den E), .i (p0e3.den E)] = _
          rw [hE, hp1, hp3, hI.b0, hI.h2]
          show uX (uMn (ab (b2i _)) _ _) _ _ = _
          rw [ab_b2i]; rfl
        have g2 : p0e5.den E = (rAt (E0.a 0) (i + 1)).sm := by
          show E.fn.f 2 [.i (b2i (E.b 0)), .i (E.i 2), .i (E.i 4), .i (p0e1.den E), .i (p0e3.den E)] = _
          rw [hE, hp1, hp3, hI.b0, hI.h2, hI.h4]
          show uSm (ab (b2i _)) _ (uX (uMn (ab (b2i _)) _ _) _ _) = _
          rw [ab_b2i]; rfl
        have g3 : p0e4.den E = (rAt (E0.a 0) (i + 1)).dev := by
          show E.fn.f 3 [.i (b2i (E.b 0)), .i (E.i 2), .i (E.i 4), .i (E.i 5), .i (p0e1.den E), .i (p0e3.den E)] = _
          rw [hE, hp1, hp3, hI.b0, hI.h2, hI.h4, hI.h5]
          show uDev (ab (b2i _)) _ _ (uX (uMn (ab (b2i _)) _ _) _ _) = _
          rw [ab_b2i]; rfl
        refine ⟨⟨i + 1, by show E.i 7 + 1 = _; omega, by rw [h7, h1] at hlt; omega, h0, h1, hI.ha, rfl, g0, g1, g2, g3, fun j hj => ?_⟩, fun b hb => ?_⟩
        · show p0e14.den E j = _
          unfold p0e14
          rw [tl6 h7]
          split
          · rename_i hj6; exact hI.row j hj6
          · rename_i hj6
            obtain ⟨c, rfl⟩ : ∃ c, j = i * 6 + c := ⟨j - i * 6, by omega⟩
            have hc : c < 6 := by omega
            have e1 : (i * 6 + c) / 6 = i := by omega
            have e2 : (i * 6 + c) % 6 = c := by omega
            rw [Nat.add_sub_cancel_left]
            unfold outA
            rw [e1, e2]
            have gm : p0e12.den E = rOut (rAt (E0.a 0) (i + 1)) (E0.i 0) 4 := by
              simp only [p0e12, p0e11, p0e10, d_add, d_mx, d_mul, d_c, g2, g3, rOut]
            match c, hc with
            | 0, _ => exact g2
            | 1, _ => exact g1
            | 2, _ => exact g0
            | 3, _ => exact g3
            | 4, _ => exact gm
            | 5, _ => show p0e12.den E + E.i 0 = _; rw [gm, h0]; rfl
        · obtain rfl := Option.some.inj hb
          show (E0.i 1 - (E.i 7 + 1)).toNat < _
          omega
      · intro hf
        have := hdead (hf (SB.lt (.v 7) (.v 1), true) (by simp))
        have h3 := hf (SB.le p0e3 (.c 100000000), false) (by simp)
        simp only [le_f, d_c] at h3; omega
      · intro hf
        have := hdead (hf (SB.lt (.v 7) (.v 1), true) (by simp))
        have h3 := hf (SB.le (.c 0) p0e3, false) (by simp)
        simp only [le_f, d_c] at h3; omega
      · intro hf
        have := hdead (hf (SB.lt (.v 7) (.v 1), true) (by simp))
        have h3 := hf (SB.le p0e1 (.c 2000000000), false) (by simp)
        simp only [le_f, d_c] at h3; omega
      · intro hf
        have := hdead (hf (SB.lt (.v 7) (.v 1), true) (by simp))
        have h3 := hf (SB.le (.c 1000) p0e1, false) (by simp)
        simp only [le_f, d_c] at h3; omega
      · intro hf
        have hlt := hf (SB.lt (.v 7) (.v 1), false) (by simp)
        simp only [lt_f, d_v] at hlt
        refine ⟨rfl, ?_⟩
        have hin : E0.i 1 = i := by omega
        simp only [List.forall_mem_cons, List.not_mem_nil, false_imp_iff, implies_true, and_true, Eqn.ok]
        refine ⟨fun j _ => by rw [d_av, d_av, hI.ha], h1, fun j hj => ?_, by rw [d_v, d_v]; omega⟩
        simp only [d_v, hin] at hj
        rw [d_av, hI.row j (by omega)]
        show _ = E0.fn.a 0 [.i (E0.i 0), .a ((AE.v 0).den E0)] j
        rw [hE0]; rfl
end Go.Proofs.Ytiadjdnipheghaa
