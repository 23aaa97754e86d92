/- The ways of the reference's decoding come to the number. -/
import Derived.Test.YtlkobjghpkifmaaPnC
set_option linter.unusedVariables false
set_option linter.unusedSimpArgs false
namespace Go.Proofs.Ytlkobjghpkifmaa
open Go Go.Sx Go.RowKit
set_option maxHeartbeats 4000000

theorem s3_ways (E : Env) (l t : Int) (hl : E.i 1 = l) (ht : E.i 2 = t) (l0 : -1 ≤ l) (l1 : l < 4611686018427387903) (t0 : 0 ≤ t) (t1 : t < 16777216) :
    ∀ o ∈ s3outs, Facts E o.facts → o.dead = false ∧ ∃ x : SE, o.res = .int .i64 x ∧ x.den E = pnM 16777216 l t := by
  obtain ⟨q, r, he, r0, r1⟩ : ∃ q r : Int, l + 1 = q * 16777216 + r ∧ 0 ≤ r ∧ r < 16777216 := ⟨(l + 1) / 16777216, (l + 1) % 16777216, by omega, by omega, by omega⟩
  have hpn : pnM 16777216 l t = if q * 16777216 + t ≤ l + 1 - 8388608 ∧ q * 16777216 + t < 4611686018427387904 - 16777216 then q * 16777216 + t + 16777216 else if l + 1 + 8388608 < q * 16777216 + t ∧ 16777216 ≤ q * 16777216 + t then q * 16777216 + t - 16777216 else q * 16777216 + t := by
    unfold pnM
    have e1 : (l + 1) - (l + 1) % 16777216 + t = q * 16777216 + t := by omega
    have e2 : (16777216 : Int) / 2 = 8388608 := by decide
    simp only [e1, e2]
  have h0 : s3e0.den E = (l + (1)) := by
    show E.i 1 + (1 : Int) = _
    rw [hl]
  have h1 : s3e1.den E = (l + (1)) := by
    show IntKind.i64.wrap (s3e0.den E) = _
    rw [h0]; exact w64 (by clear hpn hl ht h0; omega)
  have h2 : s3e2.den E = q := by
    show (s3e1.den E).tdiv 16777216 = q
    rw [h1, Int.tdiv_eq_ediv_of_nonneg (by clear hpn hl ht h0 h1; omega)]; omega
  have h3 : s3e3.den E = q := by
    show IntKind.i64.wrap (s3e2.den E) = _
    rw [h2]; exact w64 (by clear hpn hl ht h0 h1 h2; omega)
  have h4 : s3e4.den E = (q + (1)) := by
    show s3e3.den E + (1 : Int) = _
    rw [h3]
  have h5 : s3e5.den E = (q + (1)) := by
    show IntKind.i64.wrap (s3e4.den E) = _
    rw [h4]; exact w64 (by clear hpn hl ht h0 h1 h2 h3 h4; omega)
  have h6 : s3e6.den E = ((q + (1)) * (16777216)) := by
    show s3e5.den E * (16777216 : Int) = _
    rw [h5]
  have h7 : s3e7.den E = ((q + (1)) * (16777216)) := by
    show IntKind.i64.wrap (s3e6.den E) = _
    rw [h6]; exact w64 (by clear hpn hl ht h0 h1 h2 h3 h4 h5 h6; omega)
  have h8 : s3e8.den E = (((q + (1)) * (16777216)) + t) := by
    show s3e7.den E + E.i 2 = _
    rw [h7, ht]
  have h9 : s3e9.den E = (((q + (1)) * (16777216)) + t) := by
    show IntKind.i64.wrap (s3e8.den E) = _
    rw [h8]; exact w64 (by clear hpn hl ht h0 h1 h2 h3 h4 h5 h6 h7 h8; omega)
  have h10 : s3e10.den E = (q * (16777216)) := by
    show s3e3.den E * (16777216 : Int) = _
    rw [h3]
  have h11 : s3e11.den E = (q * (16777216)) := by
    show IntKind.i64.wrap (s3e10.den E) = _
    rw [h10]; exact w64 (by clear hpn hl ht h0 h1 h2 h3 h4 h5 h6 h7 h8 h9 h10; omega)
  have h12 : s3e12.den E = ((q * (16777216)) + t) := by
    show s3e11.den E + E.i 2 = _
    rw [h11, ht]
  have h13 : s3e13.den E = ((q * (16777216)) + t) := by
    show IntKind.i64.wrap (s3e12.den E) = _
    rw [h12]; exact w64 (by clear hpn hl ht h0 h1 h2 h3 h4 h5 h6 h7 h8 h9 h10 h11 h12; omega)
  have h14 : s3e14.den E = (q - (1)) := by
    show s3e3.den E - (1 : Int) = _
    rw [h3]
  have h15 : s3e15.den E = (q - (1)) := by
    show IntKind.i64.wrap (s3e14.den E) = _
    rw [h14]; exact w64 (by clear hpn hl ht h0 h1 h2 h3 h4 h5 h6 h7 h8 h9 h10 h11 h12 h13 h14; omega)
  have h16 : s3e16.den E = ((q - (1)) * (16777216)) := by
    show s3e15.den E * (16777216 : Int) = _
    rw [h15]
  have h17 : s3e17.den E = ((q - (1)) * (16777216)) := by
    show IntKind.i64.wrap (s3e16.den E) = _
    rw [h16]; exact w64 (by clear hpn hl ht h0 h1 h2 h3 h4 h5 h6 h7 h8 h9 h10 h11 h12 h13 h14 h15 h16; omega)
  have h18 : s3e18.den E = (((q - (1)) * (16777216)) + t) := by
    show s3e17.den E + E.i 2 = _
    rw [h17, ht]
  have h19 : s3e19.den E = (((q - (1)) * (16777216)) + t) := by
    show IntKind.i64.wrap (s3e18.den E) = _
    rw [h18]; exact w64 (by clear hpn hl ht h0 h1 h2 h3 h4 h5 h6 h7 h8 h9 h10 h11 h12 h13 h14 h15 h16 h17 h18; omega)
  have h20 : s3e20.den E = ((((q + (1)) * (16777216)) + t) - (l + (1))) := by
    show s3e9.den E - s3e1.den E = _
    rw [h9, h1]
  have h21 : s3e21.den E = ((((q + (1)) * (16777216)) + t) - (l + (1))) := by
    show IntKind.i64.wrap (s3e20.den E) = _
    rw [h20]; exact w64 (by clear hpn hl ht h0 h1 h2 h3 h4 h5 h6 h7 h8 h9 h10 h11 h12 h13 h14 h15 h16 h17 h18 h19 h20; omega)
  have h22 : s3e22.den E = ((0) - ((((q + (1)) * (16777216)) + t) - (l + (1)))) := by
    show (0 : Int) - s3e21.den E = _
    rw [h21]
  have h23 : s3e23.den E = ((0) - ((((q + (1)) * (16777216)) + t) - (l + (1)))) := by
    show IntKind.i64.wrap (s3e22.den E) = _
    rw [h22]; exact w64 (by clear hpn hl ht h0 h1 h2 h3 h4 h5 h6 h7 h8 h9 h10 h11 h12 h13 h14 h15 h16 h17 h18 h19 h20 h21 h22; omega)
  obtain ⟨m24, h24, hm24⟩ : ∃ m24 : Int, s3e24.den E = m24 ∧ (((((q + (1)) * (16777216)) + t) - (l + (1))) ≤ m24 ∧ ((0) - ((((q + (1)) * (16777216)) + t) - (l + (1)))) ≤ m24 ∧ (m24 = ((((q + (1)) * (16777216)) + t) - (l + (1))) ∨ m24 = ((0) - ((((q + (1)) * (16777216)) + t) - (l + (1)))))) := ⟨_, rfl, by
    show ((((q + (1)) * (16777216)) + t) - (l + (1))) ≤ imx (s3e21.den E) (s3e23.den E) ∧ ((0) - ((((q + (1)) * (16777216)) + t) - (l + (1)))) ≤ imx (s3e21.den E) (s3e23.den E) ∧ (imx (s3e21.den E) (s3e23.den E) = ((((q + (1)) * (16777216)) + t) - (l + (1))) ∨ imx (s3e21.den E) (s3e23.den E) = ((0) - ((((q + (1)) * (16777216)) + t) - (l + (1)))))
    rw [h21, h23]; unfold imx; clear hpn hl ht h0 h1 h2 h3 h4 h5 h6 h7 h8 h9 h10 h11 h12 h13 h14 h15 h16 h17 h18 h19 h20 h21 h22 h23; split <;> omega⟩
  have h25 : s3e25.den E = (((q * (16777216)) + t) - (l + (1))) := by
    show s3e13.den E - s3e1.den E = _
    rw [h13, h1]
  have h26 : s3e26.den E = (((q * (16777216)) + t) - (l + (1))) := by
    show IntKind.i64.wrap (s3e25.den E) = _
    rw [h25]; exact w64 (by clear hpn hl ht h0 h1 h2 h3 h4 h5 h6 h7 h8 h9 h10 h11 h12 h13 h14 h15 h16 h17 h18 h19 h20 h21 h22 h23 h24 h25; omega)
  have h27 : s3e27.den E = ((0) - (((q * (16777216)) + t) - (l + (1)))) := by
    show (0 : Int) - s3e26.den E = _
    rw [h26]
  have h28 : s3e28.den E = ((0) - (((q * (16777216)) + t) - (l + (1)))) := by
    show IntKind.i64.wrap (s3e27.den E) = _
    rw [h27]; exact w64 (by clear hpn hl ht h0 h1 h2 h3 h4 h5 h6 h7 h8 h9 h10 h11 h12 h13 h14 h15 h16 h17 h18 h19 h20 h21 h22 h23 h24 h25 h26 h27; omega)
  obtain ⟨m29, h29, hm29⟩ : ∃ m29 : Int, s3e29.den E = m29 ∧ ((((q * (16777216)) + t) - (l + (1))) ≤ m29 ∧ ((0) - (((q * (16777216)) + t) - (l + (1)))) ≤ m29 ∧ (m29 = (((q * (16777216)) + t) - (l + (1))) ∨ m29 = ((0) - (((q * (16777216)) + t) - (l + (1)))))) := ⟨_, rfl, by
    show (((q * (16777216)) + t) - (l + (1))) ≤ imx (s3e26.den E) (s3e28.den E) ∧ ((0) - (((q * (16777216)) + t) - (l + (1)))) ≤ imx (s3e26.den E) (s3e28.den E) ∧ (imx (s3e26.den E) (s3e28.den E) = (((q * (16777216)) + t) - (l + (1))) ∨ imx (s3e26.den E) (s3e28.den E) = ((0) - (((q * (16777216)) + t) - (l + (1)))))
    rw [h26, h28]; unfold imx; clear hpn hl ht h0 h1 h2 h3 h4 h5 h6 h7 h8 h9 h10 h11 h12 h13 h14 h15 h16 h17 h18 h19 h20 h21 h22 h23 h24 h25 h26 h27 h28; split <;> omega⟩
  have h30 : s3e30.den E = ((((q - (1)) * (16777216)) + t) - (l + (1))) := by
    show s3e19.den E - s3e1.den E = _
    rw [h19, h1]
  have h31 : s3e31.den E = ((((q - (1)) * (16777216)) + t) - (l + (1))) := by
    show IntKind.i64.wrap (s3e30.den E) = _
    rw [h30]; exact w64 (by clear hpn hl ht h0 h1 h2 h3 h4 h5 h6 h7 h8 h9 h10 h11 h12 h13 h14 h15 h16 h17 h18 h19 h20 h21 h22 h23 h24 h25 h26 h27 h28 h29 h30; omega)
  have h32 : s3e32.den E = ((0) - ((((q - (1)) * (16777216)) + t) - (l + (1)))) := by
    show (0 : Int) - s3e31.den E = _
    rw [h31]
  have h33 : s3e33.den E = ((0) - ((((q - (1)) * (16777216)) + t) - (l + (1)))) := by
    show IntKind.i64.wrap (s3e32.den E) = _
    rw [h32]; exact w64 (by clear hpn hl ht h0 h1 h2 h3 h4 h5 h6 h7 h8 h9 h10 h11 h12 h13 h14 h15 h16 h17 h18 h19 h20 h21 h22 h23 h24 h25 h26 h27 h28 h29 h30 h31 h32; omega)
  obtain ⟨m34, h34, hm34⟩ : ∃ m34 : Int, s3e34.den E = m34 ∧ (((((q - (1)) * (16777216)) + t) - (l + (1))) ≤ m34 ∧ ((0) - ((((q - (1)) * (16777216)) + t) - (l + (1)))) ≤ m34 ∧ (m34 = ((((q - (1)) * (16777216)) + t) - (l + (1))) ∨ m34 = ((0) - ((((q - (1)) * (16777216)) + t) - (l + (1)))))) := ⟨_, rfl, by
    show ((((q - (1)) * (16777216)) + t) - (l + (1))) ≤ imx (s3e31.den E) (s3e33.den E) ∧ ((0) - ((((q - (1)) * (16777216)) + t) - (l + (1)))) ≤ imx (s3e31.den E) (s3e33.den E) ∧ (imx (s3e31.den E) (s3e33.den E) = ((((q - (1)) * (16777216)) + t) - (l + (1))) ∨ imx (s3e31.den E) (s3e33.den E) = ((0) - ((((q - (1)) * (16777216)) + t) - (l + (1)))))
    rw [h31, h33]; unfold imx; clear hpn hl ht h0 h1 h2 h3 h4 h5 h6 h7 h8 h9 h10 h11 h12 h13 h14 h15 h16 h17 h18 h19 h20 h21 h22 h23 h24 h25 h26 h27 h28 h29 h30 h31 h32 h33; split <;> omega⟩
  rw [hpn]
  clear hpn
  obtain rfl : m24 = t - r + 16777216 := by clear h0 h1 h2 h3 h4 h5 h6 h7 h8 h9 h10 h11 h12 h13 h14 h15 h16 h17 h18 h19 h20 h21 h22 h23 h24 h25 h26 h27 h28 h29 h30 h31 h32 h33 h34; omega
  obtain rfl : m34 = 16777216 + r - t := by clear h0 h1 h2 h3 h4 h5 h6 h7 h8 h9 h10 h11 h12 h13 h14 h15 h16 h17 h18 h19 h20 h21 h22 h23 h24 h25 h26 h27 h28 h29 h30 h31 h32 h33 h34; omega
  clear hm24 hm34
  intro o ho
  simp only [s3outs, List.mem_cons, List.not_mem_nil, or_false] at ho
  rcases ho with rfl | rfl | rfl | rfl | rfl | rfl | rfl | rfl | rfl | rfl | rfl | rfl | rfl | rfl | rfl | rfl | rfl | rfl | rfl | rfl | rfl | rfl | rfl | rfl | rfl | rfl | rfl | rfl | rfl | rfl | rfl | rfl | rfl | rfl | rfl | rfl | rfl | rfl | rfl | rfl | rfl | rfl | rfl | rfl | rfl | rfl | rfl | rfl | rfl | rfl | rfl | rfl | rfl | rfl | rfl | rfl | rfl | rfl | rfl | rfl
  · intro hF
    simp only [s3o0, facts_cons, facts_nil, lt_t, lt_f, le_t, le_f, eq_t, eq_f, d_c, h0, h1, h2, h3, h4, h5, h6, h7, h8, h9, h10, h11, h12, h13, h14, h15, h16, h17, h18, h19, h20, h21, h22, h23, h24, h25, h26, h27, h28, h29, h30, h31, h32, h33, h34, and_true] at hF
    refine ⟨rfl, _, rfl, ?_⟩
    simp only [d_c, h0, h1, h2, h3, h4, h5, h6, h7, h8, h9, h10, h11, h12, h13, h14, h15, h16, h17, h18, h19, h20, h21, h22, h23, h24, h25, h26, h27, h28, h29, h30, h31, h32, h33, h34]
    clear hl ht h0 h1 h2 h3 h4 h5 h6 h7 h8 h9 h10 h11 h12 h13 h14 h15 h16 h17 h18 h19 h20 h21 h22 h23 h24 h25 h26 h27 h28 h29 h30 h31 h32 h33 h34
    (repeat' split) <;> omega
  · intro hF
    simp only [s3o1, facts_cons, facts_nil, lt_t, lt_f, le_t, le_f, eq_t, eq_f, d_c, h0, h1, h2, h3, h4, h5, h6, h7, h8, h9, h10, h11, h12, h13, h14, h15, h16, h17, h18, h19, h20, h21, h22, h23, h24, h25, h26, h27, h28, h29, h30, h31, h32, h33, h34, and_true] at hF
    refine ⟨rfl, _, rfl, ?_⟩
    simp only [d_c, h0, h1, h2, h3, h4, h5, h6, h7, h8, h9, h10, h11, h12, h13, h14, h15, h16, h17, h18, h19, h20, h21, h22, h23, h24, h25, h26, h27, h28, h29, h30, h31, h32, h33, h34]
    clear hl ht h0 h1 h2 h3 h4 h5 h6 h7 h8 h9 h10 h11 h12 h13 h14 h15 h16 h17 h18 h19 h20 h21 h22 h23 h24 h25 h26 h27 h28 h29 h30 h31 h32 h33 h34
    (repeat' split) <;> omega
  · intro hF
    simp only [s3o2, facts_cons, facts_nil, lt_t, lt_f, le_t, le_f, eq_t, eq_f, d_c, h0, h1, h2, h3, h4, h5, h6, h7, h8, h9, h10, h11, h12, h13, h14, h15, h16, h17, h18, h19, h20, h21, h22, h23, h24, h25, h26, h27, h28, h29, h30, h31, h32, h33, h34, and_true] at hF
    refine ⟨rfl, _, rfl, ?_⟩
    simp only [d_c, h0, h1, h2, h3, h4, h5, h6, h7, h8, h9, h10, h11, h12, h13, h14, h15, h16, h17, h18, h19, h20, h21, h22, h23, h24, h25, h26, h27, h28, h29, h30, h31, h32, h33, h34]
    clear hl ht h0 h1 h2 h3 h4 h5 h6 h7 h8 h9 h10 h11 h12 h13 h14 h15 h16 h17 h18 h19 h20 h21 h22 h23 h24 h25 h26 h27 h28 h29 h30 h31 h32 h33 h34
    (repeat' split) <;> omega
  · intro hF
    simp only [s3o3, facts_cons, facts_nil, lt_t, lt_f, le_t, le_f, eq_t, eq_f, d_c, h0, h1, h2, h3, h4, h5, h6, h7, h8, h9, h10, h11, h12, h13, h14, h15, h16, h17, h18, h19, h20, h21, h22, h23, h24, h25, h26, h27, h28, h29, h30, h31, h32, h33, h34, and_true] at hF
    refine ⟨rfl, _, rfl, ?_⟩
    simp only [d_c, h0, h1, h2, h3, h4, h5, h6, h7, h8, h9, h10, h11, h12, h13, h14, h15, h16, h17, h18, h19, h20, h21, h22, h23, h24, h25, h26, h27, h28, h29, h30, h31, h32, h33, h34]
    clear hl ht h0 h1 h2 h3 h4 h5 h6 h7 h8 h9 h10 h11 h12 h13 h14 h15 h16 h17 h18 h19 h20 h21 h22 h23 h24 h25 h26 h27 h28 h29 h30 h31 h32 h33 h34
    (repeat' split) <;> omega
  · intro hF
    simp only [s3o4, facts_cons, facts_nil, lt_t, lt_f, le_t, le_f, eq_t, eq_f, d_c, h0, h1, h2, h3, h4, h5, h6, h7, h8, h9, h10, h11, h12, h13, h14, h15, h16, h17, h18, h19, h20, h21, h22, h23, h24, h25, h26, h27, h28, h29, h30, h31, h32, h33, h34, and_true] at hF
    refine ⟨rfl, _, rfl, ?_⟩
    simp only [d_c, h0, h1, h2, h3, h4, h5, h6, h7, h8, h9, h10, h11, h12, h13, h14, h15, h16, h17, h18, h19, h20, h21, h22, h23, h24, h25, h26, h27, h28, h29, h30, h31, h32, h33, h34]
    clear hl ht h0 h1 h2 h3 h4 h5 h6 h7 h8 h9 h10 h11 h12 h13 h14 h15 h16 h17 h18 h19 h20 h21 h22 h23 h24 h25 h26 h27 h28 h29 h30 h31 h32 h33 h34
    (repeat' split) <;> omega
  · intro hF
    simp only [s3o5, facts_cons, facts_nil, lt_t, lt_f, le_t, le_f, eq_t, eq_f, d_c, h0, h1, h2, h3, h4, h5, h6, h7, h8, h9, h10, h11, h12, h13, h14, h15, h16, h17, h18, h19, h20, h21, h22, h23, h24, h25, h26, h27, h28, h29, h30, h31, h32, h33, h34, and_true] at hF
    refine ⟨rfl, _, rfl, ?_⟩
    simp only [d_c, h0, h1, h2, h3, h4, h5, h6, h7, h8, h9, h10, h11, h12, h13, h14, h15, h16, h17, h18, h19, h20, h21, h22, h23, h24, h25, h26, h27, h28, h29, h30, h31, h32, h33, h34]
    clear hl ht h0 h1 h2 h3 h4 h5 h6 h7 h8 h9 h10 h11 h12 h13 h14 h15 h16 h17 h18 h19 h20 h21 h22 h23 h24 h25 h26 h27 h28 h29 h30 h31 h32 h33 h34
    (repeat' split) <;> omega
  · intro hF
    simp only [s3o6, facts_cons, facts_nil, lt_t, lt_f, le_t, le_f, eq_t, eq_f, d_c, h0, h1, h2, h3, h4, h5, h6, h7, h8, h9, h10, h11, h12, h13, h14, h15, h16, h17, h18, h19, h20, h21, h22, h23, h24, h25, h26, h27, h28, h29, h30, h31, h32, h33, h34, and_true] at hF
    refine ⟨rfl, _, rfl, ?_⟩
    simp only [d_c, h0, h1, h2, h3, h4, h5, h6, h7, h8, h9, h10, h11, h12, h13, h14, h15, h16, h17, h18, h19, h20, h21, h22, h23, h24, h25, h26, h27, h28, h29, h30, h31, h32, h33, h34]
    clear hl ht h0 h1 h2 h3 h4 h5 h6 h7 h8 h9 h10 h11 h12 h13 h14 h15 h16 h17 h18 h19 h20 h21 h22 h23 h24 h25 h26 h27 h28 h29 h30 h31 h32 h33 h34
    (repeat' split) <;> omega
  · intro hF
    simp only [s3o7, facts_cons, facts_nil, lt_t, lt_f, le_t, le_f, eq_t, eq_f, d_c, h0, h1, h2, h3, h4, h5, h6, h7, h8, h9, h10, h11, h12, h13, h14, h15, h16, h17, h18, h19, h20, h21, h22, h23, h24, h25, h26, h27, h28, h29, h30, h31, h32, h33, h34, and_true] at hF
    refine ⟨rfl, _, rfl, ?_⟩
    simp only [d_c, h0, h1, h2, h3, h4, h5, h6, h7, h8, h9, h10, h11, h12, h13, h14, h15, h16, h17, h18, h19, h20, h21, h22, h23, h24, h25, h26, h27, h28, h29, h30, h31, h32, h33, h34]
    clear hl ht h0 h1 h2 h3 h4 h5 h6 h7 h8 h9 h10 h11 h12 h13 h14 h15 h16 h17 h18 h19 h20 h21 h22 h23 h24 h25 h26 h27 h28 h29 h30 h31 h32 h33 h34
    (repeat' split) <;> omega
  · intro hF
    simp only [s3o8, facts_cons, facts_nil, lt_t, lt_f, le_t, le_f, eq_t, eq_f, d_c, h0, h1, h2, h3, h4, h5, h6, h7, h8, h9, h10, h11, h12, h13, h14, h15, h16, h17, h18, h19, h20, h21, h22, h23, h24, h25, h26, h27, h28, h29, h30, h31, h32, h33, h34, and_true] at hF
    refine ⟨rfl, _, rfl, ?_⟩
    simp only [d_c, h0, h1, h2, h3, h4, h5, h6, h7, h8, h9, h10, h11, h12, h13, h14, h15, h16, h17, h18, h19, h20, h21, h22, h23, h24, h25, h26, h27, h28, h29, h30, h31, h32, h33, h34]
    clear hl ht h0 h1 h2 h3 h4 h5 h6 h7 h8 h9 h10 h11 h12 h13 h14 h15 h16 h17 h18 h19 h20 h21 h22 h23 h24 h25 h26 h27 h28 h29 h30 h31 h32 h33 h34
    (repeat' split) <;> omega
  · intro hF
    simp only [s3o9, facts_cons, facts_nil, lt_t, lt_f, le_t, le_f, eq_t, eq_f, d_c, h0, h1, h2, h3, h4, h5, h6, h7, h8, h9, h10, h11, h12, h13, h14, h15, h16, h17, h18, h19, h20, h21, h22, h23, h24, h25, h26, h27, h28, h29, h30, h31, h32, h33, h34, and_true] at hF
    refine ⟨rfl, _, rfl, ?_⟩
    simp only [d_c, h0, h1, h2, h3, h4, h5, h6, h7, h8, h9, h10, h11, h12, h13, h14, h15, h16, h17, h18, h19, h20, h21, h22, h23, h24, h25, h26, h27, h28, h29, h30, h31, h32, h33, h34]
    clear hl ht h0 h1 h2 h3 h4 h5 h6 h7 h8 h9 h10 h11 h12 h13 h14 h15 h16 h17 h18 h19 h20 h21 h22 h23 h24 h25 h26 h27 h28 h29 h30 h31 h32 h33 h34
    (repeat' split) <;> omega
  · intro hF
    simp only [s3o10, facts_cons, facts_nil, lt_t, lt_f, le_t, le_f, eq_t, eq_f, d_c, h0, h1, h2, h3, h4, h5, h6, h7, h8, h9, h10, h11, h12, h13, h14, h15, h16, h17, h18, h19, h20, h21, h22, h23, h24, h25, h26, h27, h28, h29, h30, h31, h32, h33, h34, and_true] at hF
    refine ⟨rfl, _, rfl, ?_⟩
    simp only [d_c, h0, h1, h2, h3, h4, h5, h6, h7, h8, h9, h10, h11, h12, h13, h14, h15, h16, h17, h18, h19, h20, h21, h22, h23, h24, h25, h26, h27, h28, h29, h30, h31, h32, h33, h34]
    clear hl ht h0 h1 h2 h3 h4 h5 h6 h7 h8 h9 h10 h11 h12 h13 h14 h15 h16 h17 h18 h19 h20 h21 h22 h23 h24 h25 h26 h27 h28 h29 h30 h31 h32 h33 h34
    (repeat' split) <;> omega
  · intro hF
    simp only [s3o11, facts_cons, facts_nil, lt_t, lt_f, le_t, le_f, eq_t, eq_f, d_c, h0, h1, h2, h3, h4, h5, h6, h7, h8, h9, h10, h11, h12, h13, h14, h15, h16, h17, h18, h19, h20, h21, h22, h23, h24, h25, h26, h27, h28, h29, h30, h31, h32, h33, h34, and_true] at hF
    refine ⟨rfl, _, rfl, ?_⟩
    simp only [d_c, h0, h1, h2, h3, h4, h5, h6, h7, h8, h9, h10, h11, h12, h13, h14, h15, h16, h17, h18, h19, h20, h21, h22, h23, h24, h25, h26, h27, h28, h29, h30, h31, h32, h33, h34]
    clear hl ht h0 h1 h2 h3 h4 h5 h6 h7 h8 h9 h10 h11 h12 h13 h14 h15 h16 h17 h18 h19 h20 h21 h22 h23 h24 h25 h26 h27 h28 h29 h30 h31 h32 h33 h34
    (repeat' split) <;> omega
  · intro hF
    simp only [s3o12, facts_cons, facts_nil, lt_t, lt_f, le_t, le_f, eq_t, eq_f, d_c, h0, h1, h2, h3, h4, h5, h6, h7, h8, h9, h10, h11, h12, h13, h14, h15, h16, h17, h18, h19, h20, h21, h22, h23, h24, h25, h26, h27, h28, h29, h30, h31, h32, h33, h34, and_true] at hF
    refine ⟨rfl, _, rfl, ?_⟩
    simp only [d_c, h0, h1, h2, h3, h4, h5, h6, h7, h8, h9, h10, h11, h12, h13, h14, h15, h16, h17, h18, h19, h20, h21, h22, h23, h24, h25, h26, h27, h28, h29, h30, h31, h32, h33, h34]
    clear hl ht h0 h1 h2 h3 h4 h5 h6 h7 h8 h9 h10 h11 h12 h13 h14 h15 h16 h17 h18 h19 h20 h21 h22 h23 h24 h25 h26 h27 h28 h29 h30 h31 h32 h33 h34
    (repeat' split) <;> omega
  · intro hF
    simp only [s3o13, facts_cons, facts_nil, lt_t, lt_f, le_t, le_f, eq_t, eq_f, d_c, h0, h1, h2, h3, h4, h5, h6, h7, h8, h9, h10, h11, h12, h13, h14, h15, h16, h17, h18, h19, h20, h21, h22, h23, h24, h25, h26, h27, h28, h29, h30, h31, h32, h33, h34, and_true] at hF
    refine ⟨rfl, _, rfl, ?_⟩
    simp only [d_c, h0, h1, h2, h3, h4, h5, h6, h7, h8, h9, h10, h11, h12, h13, h14, h15, h16, h17, h18, h19, h20, h21, h22, h23, h24, h25, h26, h27, h28, h29, h30, h31, h32, h33, h34]
    clear hl ht h0 h1 h2 h3 h4 h5 h6 h7 h8 h9 h10 h11 h12 h13 h14 h15 h16 h17 h18 h19 h20 h21 h22 h23 h24 h25 h26 h27 h28 h29 h30 h31 h32 h33 h34
    (repeat' split) <;> omega
  · intro hF
    simp only [s3o14, facts_cons, facts_nil, lt_t, lt_f, le_t, le_f, eq_t, eq_f, d_c, h0, h1, h2, h3, h4, h5, h6, h7, h8, h9, h10, h11, h12, h13, h14, h15, h16, h17, h18, h19, h20, h21, h22, h23, h24, h25, h26, h27, h28, h29, h30, h31, h32, h33, h34, and_true] at hF
    refine ⟨rfl, _, rfl, ?_⟩
    simp only [d_c, h0, h1, h2, h3, h4, h5, h6, h7, h8, h9, h10, h11, h12, h13, h14, h15, h16, h17, h18, h19, h20, h21, h22, h23, h24, h25, h26, h27, h28, h29, h30, h31, h32, h33, h34]
    clear hl ht h0 h1 h2 h3 h4 h5 h6 h7 h8 h9 h10 h11 h12 h13 h14 h15 h16 h17 h18 h19 h20 h21 h22 h23 h24 h25 h26 h27 h28 h29 h30 h31 h32 h33 h34
    (repeat' split) <;> omega
  · intro hF
    simp only [s3o15, facts_cons, facts_nil, lt_t, lt_f, le_t, le_f, eq_t, eq_f, d_c, h0, h1, h2, h3, h4, h5, h6, h7, h8, h9, h10, h11, h12, h13, h14, h15, h16, h17, h18, h19, h20, h21, h22, h23, h24, h25, h26, h27, h28, h29, h30, h31, h32, h33, h34, and_true] at hF
    refine ⟨rfl, _, rfl, ?_⟩
    simp only [d_c, h0, h1, h2, h3, h4, h5, h6, h7, h8, h9, h10, h11, h12, h13, h14, h15, h16, h17, h18, h19, h20, h21, h22, h23, h24, h25, h26, h27, h28, h29, h30, h31, h32, h33, h34]
    clear hl ht h0 h1 h2 h3 h4 h5 h6 h7 h8 h9 h10 h11 h12 h13 h14 h15 h16 h17 h18 h19 h20 h21 h22 h23 h24 h25 h26 h27 h28 h29 h30 h31 h32 h33 h34
    (repeat' split) <;> omega
  · intro hF
    simp only [s3o16, facts_cons, facts_nil, lt_t, lt_f, le_t, le_f, eq_t, eq_f, d_c, h0, h1, h2, h3, h4, h5, h6, h7, h8, h9, h10, h11, h12, h13, h14, h15, h16, h17, h18, h19, h20, h21, h22, h23, h24, h25, h26, h27, h28, h29, h30, h31, h32, h33, h34, and_true] at hF
    refine ⟨rfl, _, rfl, ?_⟩
    simp only [d_c, h0, h1, h2, h3, h4, h5, h6, h7, h8, h9, h10, h11, h12, h13, h14, h15, h16, h17, h18, h19, h20, h21, h22, h23, h24, h25, h26, h27, h28, h29, h30, h31, h32, h33, h34]
    clear hl ht h0 h1 h2 h3 h4 h5 h6 h7 h8 h9 h10 h11 h12 h13 h14 h15 h16 h17 h18 h19 h20 h21 h22 h23 h24 h25 h26 h27 h28 h29 h30 h31 h32 h33 h34
    (repeat' split) <;> omega
  · intro hF
    simp only [s3o17, facts_cons, facts_nil, lt_t, lt_f, le_t, le_f, eq_t, eq_f, d_c, h0, h1, h2, h3, h4, h5, h6, h7, h8, h9, h10, h11, h12, h13, h14, h15, h16, h17, h18, h19, h20, h21, h22, h23, h24, h25, h26, h27, h28, h29, h30, h31, h32, h33, h34, and_true] at hF
    refine ⟨rfl, _, rfl, ?_⟩
    simp only [d_c, h0, h1, h2, h3, h4, h5, h6, h7, h8, h9, h10, h11, h12, h13, h14, h15, h16, h17, h18, h19, h20, h21, h22, h23, h24, h25, h26, h27, h28, h29, h30, h31, h32, h33, h34]
    clear hl ht h0 h1 h2 h3 h4 h5 h6 h7 h8 h9 h10 h11 h12 h13 h14 h15 h16 h17 h18 h19 h20 h21 h22 h23 h24 h25 h26 h27 h28 h29 h30 h31 h32 h33 h34
    (repeat' split) <;> omega
  · intro hF
    simp only [s3o18, facts_cons, facts_nil, lt_t, lt_f, le_t, le_f, eq_t, eq_f, d_c, h0, h1, h2, h3, h4, h5, h6, h7, h8, h9, h10, h11, h12, h13, h14, h15, h16, h17, h18, h19, h20, h21, h22, h23, h24, h25, h26, h27, h28, h29, h30, h31, h32, h33, h34, and_true] at hF
    refine ⟨rfl, _, rfl, ?_⟩
    simp only [d_c, h0, h1, h2, h3, h4, h5, h6, h7, h8, h9, h10, h11, h12, h13, h14, h15, h16, h17, h18, h19, h20, h21, h22, h23, h24, h25, h26, h27, h28, h29, h30, h31, h32, h33, h34]
    clear hl ht h0 h1 h2 h3 h4 h5 h6 h7 h8 h9 h10 h11 h12 h13 h14 h15 h16 h17 h18 h19 h20 h21 h22 h23 h24 h25 h26 h27 h28 h29 h30 h31 h32 h33 h34
    (repeat' split) <;> omega
  · intro hF
    simp only [s3o19, facts_cons, facts_nil, lt_t, lt_f, le_t, le_f, eq_t, eq_f, d_c, h0, h1, h2, h3, h4, h5, h6, h7, h8, h9, h10, h11, h12, h13, h14, h15, h16, h17, h18, h19, h20, h21, h22, h23, h24, h25, h26, h27, h28, h29, h30, h31, h32, h33, h34, and_true] at hF
    refine ⟨rfl, _, rfl, ?_⟩
    simp only [d_c, h0, h1, h2, h3, h4, h5, h6, h7, h8, h9, h10, h11, h12, h13, h14, h15, h16, h17, h18, h19, h20, h21, h22, h23, h24, h25, h26, h27, h28, h29, h30, h31, h32, h33, h34]
    clear hl ht h0 h1 h2 h3 h4 h5 h6 h7 h8 h9 h10 h11 h12 h13 h14 h15 h16 h17 h18 h19 h20 h21 h22 h23 h24 h25 h26 h27 h28 h29 h30 h31 h32 h33 h34
    (repeat' split) <;> omega
  · intro hF
    simp only [s3o20, facts_cons, facts_nil, lt_t, lt_f, le_t, le_f, eq_t, eq_f, d_c, h0, h1, h2, h3, h4, h5, h6, h7, h8, h9, h10, h11, h12, h13, h14, h15, h16, h17, h18, h19, h20, h21, h22, h23, h24, h25, h26, h27, h28, h29, h30, h31, h32, h33, h34, and_true] at hF
    refine ⟨rfl, _, rfl, ?_⟩
    simp only [d_c, h0, h1, h2, h3, h4, h5, h6, h7, h8, h9, h10, h11, h12, h13, h14, h15, h16, h17, h18, h19, h20, h21, h22, h23, h24, h25, h26, h27, h28, h29, h30, h31, h32, h33, h34]
    clear hl ht h0 h1 h2 h3 h4 h5 h6 h7 h8 h9 h10 h11 h12 h13 h14 h15 h16 h17 h18 h19 h20 h21 h22 h23 h24 h25 h26 h27 h28 h29 h30 h31 h32 h33 h34
    (repeat' split) <;> omega
  · intro hF
    simp only [s3o21, facts_cons, facts_nil, lt_t, lt_f, le_t, le_f, eq_t, eq_f, d_c, h0, h1, h2, h3, h4, h5, h6, h7, h8, h9, h10, h11, h12, h13, h14, h15, h16, h17, h18, h19, h20, h21, h22, h23, h24, h25, h26, h27, h28, h29, h30, h31, h32, h33, h34, and_true] at hF
    refine ⟨rfl, _, rfl, ?_⟩
    simp only [d_c, h0, h1, h2, h3, h4, h5, h6, h7, h8, h9, h10, h11, h12, h13, h14, h15, h16, h17, h18, h19, h20, h21, h22, h23, h24, h25, h26, h27, h28, h29, h30, h31, h32, h33, h34]
    clear hl ht h0 h1 h2 h3 h4 h5 h6 h7 h8 h9 h10 h11 h12 h13 h14 h15 h16 h17 h18 h19 h20 h21 h22 h23 h24 h25 h26 h27 h28 h29 h30 h31 h32 h33 h34
    (repeat' split) <;> omega
  · intro hF
    simp only [s3o22, facts_cons, facts_nil, lt_t, lt_f, le_t, le_f, eq_t, eq_f, d_c, h0, h1, h2, h3, h4, h5, h6, h7, h8, h9, h10, h11, h12, h13, h14, h15, h16, h17, h18, h19, h20, h21, h22, h23, h24, h25, h26, h27, h28, h29, h30, h31, h32, h33, h34, and_true] at hF
    refine ⟨rfl, _, rfl, ?_⟩
    simp only [d_c, h0, h1, h2, h3, h4, h5, h6, h7, h8, h9, h10, h11, h12, h13, h14, h15, h16, h17, h18, h19, h20, h21, h22, h23, h24, h25, h26, h27, h28, h29, h30, h31, h32, h33, h34]
    clear hl ht h0 h1 h2 h3 h4 h5 h6 h7 h8 h9 h10 h11 h12 h13 h14 h15 h16 h17 h18 h19 h20 h21 h22 h23 h24 h25 h26 h27 h28 h29 h30 h31 h32 h33 h34
    (repeat' split) <;> omega
  · intro hF
    simp only [s3o23, facts_cons, facts_nil, lt_t, lt_f, le_t, le_f, eq_t, eq_f, d_c, h0, h1, h2, h3, h4, h5, h6, h7, h8, h9, h10, h11, h12, h13, h14, h15, h16, h17, h18, h19, h20, h21, h22, h23, h24, h25, h26, h27, h28, h29, h30, h31, h32, h33, h34, and_true] at hF
    refine ⟨rfl, _, rfl, ?_⟩
    simp only [d_c, h0, h1, h2, h3, h4, h5, h6, h7, h8, h9, h10, h11, h12, h13, h14, h15, h16, h17, h18, h19, h20, h21, h22, h23, h24, h25, h26, h27, h28, h29, h30, h31, h32, h33, h34]
    clear hl ht h0 h1 h2 h3 h4 h5 h6 h7 h8 h9 h10 h11 h12 h13 h14 h15 h16 h17 h18 h19 h20 h21 h22 h23 h24 h25 h26 h27 h28 h29 h30 h31 h32 h33 h34
    (repeat' split) <;> omega
  · intro hF
    simp only [s3o24, facts_cons, facts_nil, lt_t, lt_f, le_t, le_f, eq_t, eq_f, d_c, h0, h1, h2, h3, h4, h5, h6, h7, h8, h9, h10, h11, h12, h13, h14, h15, h16, h17, h18, h19, h20, h21, h22, h23, h24, h25, h26, h27, h28, h29, h30, h31, h32, h33, h34, and_true] at hF
    refine ⟨rfl, _, rfl, ?_⟩
    simp only [d_c, h0, h1, h2, h3, h4, h5, h6, h7, h8, h9, h10, h11, h12, h13, h14, h15, h16, h17, h18, h19, h20, h21, h22, h23, h24, h25, h26, h27, h28, h29, h30, h31, h32, h33, h34]
    clear hl ht h0 h1 h2 h3 h4 h5 h6 h7 h8 h9 h10 h11 h12 h13 h14 h15 h16 h17 h18 h19 h20 h21 h22 h23 h24 h25 h26 h27 h28 h29 h30 h31 h32 h33 h34
    (repeat' split) <;> omega
  · intro hF
    simp only [s3o25, facts_cons, facts_nil, lt_t, lt_f, le_t, le_f, eq_t, eq_f, d_c, h0, h1, h2, h3, h4, h5, h6, h7, h8, h9, h10, h11, h12, h13, h14, h15, h16, h17, h18, h19, h20, h21, h22, h23, h24, h25, h26, h27, h28, h29, h30, h31, h32, h33, h34, and_true] at hF
    refine ⟨rfl, _, rfl, ?_⟩
    simp only [d_c, h0, h1, h2, h3, h4, h5, h6, h7, h8, h9, h10, h11, h12, h13, h14, h15, h16, h17, h18, h19, h20, h21, h22, h23, h24, h25, h26, h27, h28, h29, h30, h31, h32, h33, h34]
    clear hl ht h0 h1 h2 h3 h4 h5 h6 h7 h8 h9 h10 h11 h12 h13 h14 h15 h16 h17 h18 h19 h20 h21 h22 h23 h24 h25 h26 h27 h28 h29 h30 h31 h32 h33 h34
    (repeat' split) <;> omega
  · intro hF
    simp only [s3o26, facts_cons, facts_nil, lt_t, lt_f, le_t, le_f, eq_t, eq_f, d_c, h0, h1, h2, h3, h4, h5, h6, h7, h8, h9, h10, h11, h12, h13, h14, h15, h16, h17, h18, h19, h20, h21, h22, h23, h24, h25, h26, h27, h28, h29, h30, h31, h32, h33, h34, and_true] at hF
    refine ⟨rfl, _, rfl, ?_⟩
    simp only [d_c, h0, h1, h2, h3, h4, h5, h6, h7, h8, h9, h10, h11, h12, h13, h14, h15, h16, h17, h18, h19, h20, h21, h22, h23, h24, h25, h26, h27, h28, h29, h30, h31, h32, h33, h34]
    clear hl ht h0 h1 h2 h3 h4 h5 h6 h7 h8 h9 h10 h11 h12 h13 h14 h15 h16 h17 h18 h19 h20 h21 h22 h23 h24 h25 h26 h27 h28 h29 h30 h31 h32 h33 h34
    (repeat' split) <;> omega
  · intro hF
    simp only [s3o27, facts_cons, facts_nil, lt_t, lt_f, le_t, le_f, eq_t, eq_f, d_c, h0, h1, h2, h3, h4, h5, h6, h7, h8, h9, h10, h11, h12, h13, h14, h15, h16, h17, h18, h19, h20, h21, h22, h23, h24, h25, h26, h27, h28, h29, h30, h31, h32, h33, h34, and_true] at hF
    refine ⟨rfl, _, rfl, ?_⟩
    simp only [d_c, h0, h1, h2, h3, h4, h5, h6, h7, h8, h9, h10, h11, h12, h13, h14, h15, h16, h17, h18, h19, h20, h21, h22, h23, h24, h25, h26, h27, h28, h29, h30, h31, h32, h33, h34]
    clear hl ht h0 h1 h2 h3 h4 h5 h6 h7 h8 h9 h10 h11 h12 h13 h14 h15 h16 h17 h18 h19 h20 h21 h22 h23 h24 h25 h26 h27 h28 h29 h30 h31 h32 h33 h34
    (repeat' split) <;> omega
  · intro hF
    simp only [s3o28, facts_cons, facts_nil, lt_t, lt_f, le_t, le_f, eq_t, eq_f, d_c, h0, h1, h2, h3, h4, h5, h6, h7, h8, h9, h10, h11, h12, h13, h14, h15, h16, h17, h18, h19, h20, h21, h22, h23, h24, h25, h26, h27, h28, h29, h30, h31, h32, h33, h34, and_true] at hF
    refine ⟨rfl, _, rfl, ?_⟩
    simp only [d_c, h0, h1, h2, h3, h4, h5, h6, h7, h8, h9, h10, h11, h12, h13, h14, h15, h16, h17, h18, h19, h20, h21, h22, h23, h24, h25, h26, h27, h28, h29, h30, h31, h32, h33, h34]
    clear hl ht h0 h1 h2 h3 h4 h5 h6 h7 h8 h9 h10 h11 h12 h13 h14 h15 h16 h17 h18 h19 h20 h21 h22 h23 h24 h25 h26 h27 h28 h29 h30 h31 h32 h33 h34
    (repeat' split) <;> omega
  · intro hF
    simp only [s3o29, facts_cons, facts_nil, lt_t, lt_f, le_t, le_f, eq_t, eq_f, d_c, h0, h1, h2, h3, h4, h5, h6, h7, h8, h9, h10, h11, h12, h13, h14, h15, h16, h17, h18, h19, h20, h21, h22, h23, h24, h25, h26, h27, h28, h29, h30, h31, h32, h33, h34, and_true] at hF
    refine ⟨rfl, _, rfl, ?_⟩
    simp only [d_c, h0, h1, h2, h3, h4, h5, h6, h7, h8, h9, h10, h11, h12, h13, h14, h15, h16, h17, h18, h19, h20, h21, h22, h23, h24, h25, h26, h27, h28, h29, h30, h31, h32, h33, h34]
    clear hl ht h0 h1 h2 h3 h4 h5 h6 h7 h8 h9 h10 h11 h12 h13 h14 h15 h16 h17 h18 h19 h20 h21 h22 h23 h24 h25 h26 h27 h28 h29 h30 h31 h32 h33 h34
    (repeat' split) <;> omega
  · intro hF
    simp only [s3o30, facts_cons, facts_nil, lt_t, lt_f, le_t, le_f, eq_t, eq_f, d_c, h0, h1, h2, h3, h4, h5, h6, h7, h8, h9, h10, h11, h12, h13, h14, h15, h16, h17, h18, h19, h20, h21, h22, h23, h24, h25, h26, h27, h28, h29, h30, h31, h32, h33, h34, and_true] at hF
    refine ⟨rfl, _, rfl, ?_⟩
    simp only [d_c, h0, h1, h2, h3, h4, h5, h6, h7, h8, h9, h10, h11, h12, h13, h14, h15, h16, h17, h18, h19, h20, h21, h22, h23, h24, h25, h26, h27, h28, h29, h30, h31, h32, h33, h34]
    clear hl ht h0 h1 h2 h3 h4 h5 h6 h7 h8 h9 h10 h11 h12 h13 h14 h15 h16 h17 h18 h19 h20 h21 h22 h23 h24 h25 h26 h27 h28 h29 h30 h31 h32 h33 h34
    (repeat' split) <;> omega
  · intro hF
    simp only [s3o31, facts_cons, facts_nil, lt_t, lt_f, le_t, le_f, eq_t, eq_f, d_c, h0, h1, h2, h3, h4, h5, h6, h7, h8, h9, h10, h11, h12, h13, h14, h15, h16, h17, h18, h19, h20, h21, h22, h23, h24, h25, h26, h27, h28, h29, h30, h31, h32, h33, h34, and_true] at hF
    refine ⟨rfl, _, rfl, ?_⟩
    simp only [d_c, h0, h1, h2, h3, h4, h5, h6, h7, h8, h9, h10, h11, h12, h13, h14, h15, h16, h17, h18, h19, h20, h21, h22, h23, h24, h25, h26, h27, h28, h29, h30, h31, h32, h33, h34]
    clear hl ht h0 h1 h2 h3 h4 h5 h6 h7 h8 h9 h10 h11 h12 h13 h14 h15 h16 h17 h18 h19 h20 h21 h22 h23 h24 h25 h26 h27 h28 h29 h30 h31 h32 h33 h34
    (repeat' split) <;> omega
  · intro hF
    simp only [s3o32, facts_cons, facts_nil, lt_t, lt_f, le_t, le_f, eq_t, eq_f, d_c, h0, h1, h2, h3, h4, h5, h6, h7, h8, h9, h10, h11, h12, h13, h14, h15, h16, h17, h18, h19, h20, h21, h22, h23, h24, h25, h26, h27, h28, h29, h30, h31, h32, h33, h34, and_true] at hF
    refine ⟨rfl, _, rfl, ?_⟩
    simp only [d_c, h0, h1, h2, h3, h4, h5, h6, h7, h8, h9, h10, h11, h12, h13, h14, h15, h16, h17, h18, h19, h20, h21, h22, h23, h24, h25, h26, h27, h28, h29, h30, h31, h32, h33, h34]
    clear hl ht h0 h1 h2 h3 h4 h5 h6 h7 h8 h9 h10 h11 h12 h13 h14 h15 h16 h17 h18 h19 h20 h21 h22 h23 h24 h25 h26 h27 h28 h29 h30 h31 h32 h33 h34
    (repeat' split) <;> omega
  · intro hF
    simp only [s3o33, facts_cons, facts_nil, lt_t, lt_f, le_t, le_f, eq_t, eq_f, d_c, h0, h1, h2, h3, h4, h5, h6, h7, h8, h9, h10, h11, h12, h13, h14, h15, h16, h17, h18, h19, h20, h21, h22, h23, h24, h25, h26, h27, h28, h29, h30, h31, h32, h33, h34, and_true] at hF
    refine ⟨rfl, _, rfl, ?_⟩
    simp only [d_c, h0, h1, h2, h3, h4, h5, h6, h7, h8, h9, h10, h11, h12, h13, h14, h15, h16, h17, h18, h19, h20, h21, h22, h23, h24, h25, h26, h27, h28, h29, h30, h31, h32, h33, h34]
    clear hl ht h0 h1 h2 h3 h4 h5 h6 h7 h8 h9 h10 h11 h12 h13 h14 h15 h16 h17 h18 h19 h20 h21 h22 h23 h24 h25 h26 h27 h28 h29 h30 h31 h32 h33 h34
    (repeat' split) <;> omega
  · intro hF
    simp only [s3o34, facts_cons, facts_nil, lt_t, lt_f, le_t, le_f, eq_t, eq_f, d_c, h0, h1, h2, h3, h4, h5, h6, h7, h8, h9, h10, h11, h12, h13, h14, h15, h16, h17, h18, h19, h20, h21, h22, h23, h24, h25, h26, h27, h28, h29, h30, h31, h32, h33, h34, and_true] at hF
    refine ⟨rfl, _, rfl, ?_⟩
    simp only [d_c, h0, h1, h2, h3, h4, h5, h6, h7, h8, h9, h10, h11, h12, h13, h14, h15, h16, h17, h18, h19, h20, h21, h22, h23, h24, h25, h26, h27, h28, h29, h30, h31, h32, h33, h34]
    clear hl ht h0 h1 h2 h3 h4 h5 h6 h7 h8 h9 h10 h11 h12 h13 h14 h15 h16 h17 h18 h19 h20 h21 h22 h23 h24 h25 h26 h27 h28 h29 h30 h31 h32 h33 h34
    (repeat' split) <;> omega
  · intro hF
    simp only [s3o35, facts_cons, facts_nil, lt_t, lt_f, le_t, le_f, eq_t, eq_f, d_c, h0, h1, h2, h3, h4, h5, h6, h7, h8, h9, h10, h11, h12, h13, h14, h15, h16, h17, h18, h19, h20, h21, h22, h23, h24, h25, h26, h27, h28, h29, h30, h31, h32, h33, h34, and_true] at hF
    refine ⟨rfl, _, rfl, ?_⟩
    simp only [d_c, h0, h1, h2, h3, h4, h5, h6, h7, h8, h9, h10, h11, h12, h13, h14, h15, h16, h17, h18, h19, h20, h21, h22, h23, h24, h25, h26, h27, h28, h29, h30, h31, h32, h33, h34]
    clear hl ht h0 h1 h2 h3 h4 h5 h6 h7 h8 h9 h10 h11 h12 h13 h14 h15 h16 h17 h18 h19 h20 h21 h22 h23 h24 h25 h26 h27 h28 h29 h30 h31 h32 h33 h34
    (repeat' split) <;> omega
  · intro hF
    simp only [s3o36, facts_cons, facts_nil, lt_t, lt_f, le_t, le_f, eq_t, eq_f, d_c, h0, h1, h2, h3, h4, h5, h6, h7, h8, h9, h10, h11, h12, h13, h14, h15, h16, h17, h18, h19, h20, h21, h22, h23, h24, h25, h26, h27, h28, h29, h30, h31, h32, h33, h34, and_true] at hF
    refine ⟨rfl, _, rfl, ?_⟩
    simp only [d_c, h0, h1, h2, h3, h4, h5, h6, h7, h8, h9, h10, h11, h12, h13, h14, h15, h16, h17, h18, h19, h20, h21, h22, h23, h24, h25, h26, h27, h28, h29, h30, h31, h32, h33, h34]
    clear hl ht h0 h1 h2 h3 h4 h5 h6 h7 h8 h9 h10 h11 h12 h13 h14 h15 h16 h17 h18 h19 h20 h21 h22 h23 h24 h25 h26 h27 h28 h29 h30 h31 h32 h33 h34
    (repeat' split) <;> omega
  · intro hF
    simp only [s3o37, facts_cons, facts_nil, lt_t, lt_f, le_t, le_f, eq_t, eq_f, d_c, h0, h1, h2, h3, h4, h5, h6, h7, h8, h9, h10, h11, h12, h13, h14, h15, h16, h17, h18, h19, h20, h21, h22, h23, h24, h25, h26, h27, h28, h29, h30, h31, h32, h33, h34, and_true] at hF
    refine ⟨rfl, _, rfl, ?_⟩
    simp only [d_c, h0, h1, h2, h3, h4, h5, h6, h7, h8, h9, h10, h11, h12, h13, h14, h15, h16, h17, h18, h19, h20, h21, h22, h23, h24, h25, h26, h27, h28, h29, h30, h31, h32, h33, h34]
    clear hl ht h0 h1 h2 h3 h4 h5 h6 h7 h8 h9 h10 h11 h12 h13 h14 h15 h16 h17 h18 h19 h20 h21 h22 h23 h24 h25 h26 h27 h28 h29 h30 h31 h32 h33 h34
    (repeat' split) <;> omega
  · intro hF
    simp only [s3o38, facts_cons, facts_nil, lt_t, lt_f, le_t, le_f, eq_t, eq_f, d_c, h0, h1, h2, h3, h4, h5, h6, h7, h8, h9, h10, h11, h12, h13, h14, h15, h16, h17, h18, h19, h20, h21, h22, h23, h24, h25, h26, h27, h28, h29, h30, h31, h32, h33, h34, and_true] at hF
    refine ⟨rfl, _, rfl, ?_⟩
    simp only [d_c, h0, h1, h2, h3, h4, h5, h6, h7, h8, h9, h10, h11, h12, h13, h14, h15, h16, h17, h18, h19, h20, h21, h22, h23, h24, h25, h26, h27, h28, h29, h30, h31, h32, h33, h34]
    clear hl ht h0 h1 h2 h3 h4 h5 h6 h7 h8 h9 h10 h11 h12 h13 h14 h15 h16 h17 h18 h19 h20 h21 h22 h23 h24 h25 h26 h27 h28 h29 h30 h31 h32 h33 h34
    (repeat' split) <;> omega
  · intro hF
    simp only [s3o39, facts_cons, facts_nil, lt_t, lt_f, le_t, le_f, eq_t, eq_f, d_c, h0, h1, h2, h3, h4, h5, h6, h7, h8, h9, h10, h11, h12, h13, h14, h15, h16, h17, h18, h19, h20, h21, h22, h23, h24, h25, h26, h27, h28, h29, h30, h31, h32, h33, h34, and_true] at hF
    refine ⟨rfl, _, rfl, ?_⟩
    simp only [d_c, h0, h1, h2, h3, h4, h5, h6, h7, h8, h9, h10, h11, h12, h13, h14, h15, h16, h17, h18, h19, h20, h21, h22, h23, h24, h25, h26, h27, h28, h29, h30, h31, h32, h33, h34]
    clear hl ht h0 h1 h2 h3 h4 h5 h6 h7 h8 h9 h10 h11 h12 h13 h14 h15 h16 h17 h18 h19 h20 h21 h22 h23 h24 h25 h26 h27 h28 h29 h30 h31 h32 h33 h34
    (repeat' split) <;> omega
  · intro hF
    simp only [s3o40, facts_cons, facts_nil, lt_t, lt_f, le_t, le_f, eq_t, eq_f, d_c, h0, h1, h2, h3, h4, h5, h6, h7, h8, h9, h10, h11, h12, h13, h14, h15, h16, h17, h18, h19, h20, h21, h22, h23, h24, h25, h26, h27, h28, h29, h30, h31, h32, h33, h34, and_true] at hF
    refine ⟨rfl, _, rfl, ?_⟩
    simp only [d_c, h0, h1, h2, h3, h4, h5, h6, h7, h8, h9, h10, h11, h12, h13, h14, h15, h16, h17, h18, h19, h20, h21, h22, h23, h24, h25, h26, h27, h28, h29, h30, h31, h32, h33, h34]
    clear hl ht h0 h1 h2 h3 h4 h5 h6 h7 h8 h9 h10 h11 h12 h13 h14 h15 h16 h17 h18 h19 h20 h21 h22 h23 h24 h25 h26 h27 h28 h29 h30 h31 h32 h33 h34
    (repeat' split) <;> omega
  · intro hF
    simp only [s3o41, facts_cons, facts_nil, lt_t, lt_f, le_t, le_f, eq_t, eq_f, d_c, h0, h1, h2, h3, h4, h5, h6, h7, h8, h9, h10, h11, h12, h13, h14, h15, h16, h17, h18, h19, h20, h21, h22, h23, h24, h25, h26, h27, h28, h29, h30, h31, h32, h33, h34, and_true] at hF
    refine ⟨rfl, _, rfl, ?_⟩
    simp only [d_c, h0, h1, h2, h3, h4, h5, h6, h7, h8, h9, h10, h11, h12, h13, h14, h15, h16, h17, h18, h19, h20, h21, h22, h23, h24, h25, h26, h27, h28, h29, h30, h31, h32, h33, h34]
    clear hl ht h0 h1 h2 h3 h4 h5 h6 h7 h8 h9 h10 h11 h12 h13 h14 h15 h16 h17 h18 h19 h20 h21 h22 h23 h24 h25 h26 h27 h28 h29 h30 h31 h32 h33 h34
    (repeat' split) <;> omega
  · intro hF
    simp only [s3o42, facts_cons, facts_nil, lt_t, lt_f, le_t, le_f, eq_t, eq_f, d_c, h0, h1, h2, h3, h4, h5, h6, h7, h8, h9, h10, h11, h12, h13, h14, h15, h16, h17, h18, h19, h20, h21, h22, h23, h24, h25, h26, h27, h28, h29, h30, h31, h32, h33, h34, and_true] at hF
    refine ⟨rfl, _, rfl, ?_⟩
    simp only [d_c, h0, h1, h2, h3, h4, h5, h6, h7, h8, h9, h10, h11, h12, h13, h14, h15, h16, h17, h18, h19, h20, h21, h22, h23, h24, h25, h26, h27, h28, h29, h30, h31, h32, h33, h34]
    clear hl ht h0 h1 h2 h3 h4 h5 h6 h7 h8 h9 h10 h11 h12 h13 h14 h15 h16 h17 h18 h19 h20 h21 h22 h23 h24 h25 h26 h27 h28 h29 h30 h31 h32 h33 h34
    (repeat' split) <;> omega
  · intro hF
    simp only [s3o43, facts_cons, facts_nil, lt_t, lt_f, le_t, le_f, eq_t, eq_f, d_c, h0, h1, h2, h3, h4, h5, h6, h7, h8, h9, h10, h11, h12, h13, h14, h15, h16, h17, h18, h19, h20, h21, h22, h23, h24, h25, h26, h27, h28, h29, h30, h31, h32, h33, h34, and_true] at hF
    refine ⟨rfl, _, rfl, ?_⟩
    simp only [d_c, h0, h1, h2, h3, h4, h5, h6, h7, h8, h9, h10, h11, h12, h13, h14, h15, h16, h17, h18, h19, h20, h21, h22, h23, h24, h25, h26, h27, h28, h29, h30, h31, h32, h33, h34]
    clear hl ht h0 h1 h2 h3 h4 h5 h6 h7 h8 h9 h10 h11 h12 h13 h14 h15 h16 h17 h18 h19 h20 h21 h22 h23 h24 h25 h26 h27 h28 h29 h30 h31 h32 h33 h34
    (repeat' split) <;> omega
  · intro hF
    simp only [s3o44, facts_cons, facts_nil, lt_t, lt_f, le_t, le_f, eq_t, eq_f, d_c, h0, h1, h2, h3, h4, h5, h6, h7, h8, h9, h10, h11, h12, h13, h14, h15, h16, h17, h18, h19, h20, h21, h22, h23, h24, h25, h26, h27, h28, h29, h30, h31, h32, h33, h34, and_true] at hF
    refine ⟨rfl, _, rfl, ?_⟩
    simp only [d_c, h0, h1, h2, h3, h4, h5, h6, h7, h8, h9, h10, h11, h12, h13, h14, h15, h16, h17, h18, h19, h20, h21, h22, h23, h24, h25, h26, h27, h28, h29, h30, h31, h32, h33, h34]
    clear hl ht h0 h1 h2 h3 h4 h5 h6 h7 h8 h9 h10 h11 h12 h13 h14 h15 h16 h17 h18 h19 h20 h21 h22 h23 h24 h25 h26 h27 h28 h29 h30 h31 h32 h33 h34
    (repeat' split) <;> omega
  · intro hF
    simp only [s3o45, facts_cons, facts_nil, lt_t, lt_f, le_t, le_f, eq_t, eq_f, d_c, h0, h1, h2, h3, h4, h5, h6, h7, h8, h9, h10, h11, h12, h13, h14, h15, h16, h17, h18, h19, h20, h21, h22, h23, h24, h25, h26, h27, h28, h29, h30, h31, h32, h33, h34, and_true] at hF
    refine ⟨rfl, _, rfl, ?_⟩
    simp only [d_c, h0, h1, h2, h3, h4, h5, h6, h7, h8, h9, h10, h11, h12, h13, h14, h15, h16, h17, h18, h19, h20, h21, h22, h23, h24, h25, h26, h27, h28, h29, h30, h31, h32, h33, h34]
    clear hl ht h0 h1 h2 h3 h4 h5 h6 h7 h8 h9 h10 h11 h12 h13 h14 h15 h16 h17 h18 h19 h20 h21 h22 h23 h24 h25 h26 h27 h28 h29 h30 h31 h32 h33 h34
    (repeat' split) <;> omega
  · intro hF
    simp only [s3o46, facts_cons, facts_nil, lt_t, lt_f, le_t, le_f, eq_t, eq_f, d_c, h0, h1, h2, h3, h4, h5, h6, h7, h8, h9, h10, h11, h12, h13, h14, h15, h16, h17, h18, h19, h20, h21, h22, h23, h24, h25, h26, h27, h28, h29, h30, h31, h32, h33, h34, and_true] at hF
    refine ⟨rfl, _, rfl, ?_⟩
    simp only [d_c, h0, h1, h2, h3, h4, h5, h6, h7, h8, h9, h10, h11, h12, h13, h14, h15, h16, h17, h18, h19, h20, h21, h22, h23, h24, h25, h26, h27, h28, h29, h30, h31, h32, h33, h34]
    clear hl ht h0 h1 h2 h3 h4 h5 h6 h7 h8 h9 h10 h11 h12 h13 h14 h15 h16 h17 h18 h19 h20 h21 h22 h23 h24 h25 h26 h27 h28 h29 h30 h31 h32 h33 h34
    (repeat' split) <;> omega
  · intro hF
    simp only [s3o47, facts_cons, facts_nil, lt_t, lt_f, le_t, le_f, eq_t, eq_f, d_c, h0, h1, h2, h3, h4, h5, h6, h7, h8, h9, h10, h11, h12, h13, h14, h15, h16, h17, h18, h19, h20, h21, h22, h23, h24, h25, h26, h27, h28, h29, h30, h31, h32, h33, h34, and_true] at hF
    refine ⟨rfl, _, rfl, ?_⟩
    simp only [d_c, h0, h1, h2, h3, h4, h5, h6, h7, h8, h9, h10, h11, h12, h13, h14, h15, h16, h17, h18, h19, h20, h21, h22, h23, h24, h25, h26, h27, h28, h29, h30, h31, h32, h33, h34]
    clear hl ht h0 h1 h2 h3 h4 h5 h6 h7 h8 h9 h10 h11 h12 h13 h14 h15 h16 h17 h18 h19 h20 h21 h22 h23 h24 h25 h26 h27 h28 h29 h30 h31 h32 h33 h34
    (repeat' split) <;> omega
  · intro hF
    simp only [s3o48, facts_cons, facts_nil, lt_t, lt_f, le_t, le_f, eq_t, eq_f, d_c, h0, h1, h2, h3, h4, h5, h6, h7, h8, h9, h10, h11, h12, h13, h14, h15, h16, h17, h18, h19, h20, h21, h22, h23, h24, h25, h26, h27, h28, h29, h30, h31, h32, h33, h34, and_true] at hF
    refine ⟨rfl, _, rfl, ?_⟩
    simp only [d_c, h0, h1, h2, h3, h4, h5, h6, h7, h8, h9, h10, h11, h12, h13, h14, h15, h16, h17, h18, h19, h20, h21, h22, h23, h24, h25, h26, h27, h28, h29, h30, h31, h32, h33, h34]
    clear hl ht h0 h1 h2 h3 h4 h5 h6 h7 h8 h9 h10 h11 h12 h13 h14 h15 h16 h17 h18 h19 h20 h21 h22 h23 h24 h25 h26 h27 h28 h29 h30 h31 h32 h33 h34
    (repeat' split) <;> omega
  · intro hF
    simp only [s3o49, facts_cons, facts_nil, lt_t, lt_f, le_t, le_f, eq_t, eq_f, d_c, h0, h1, h2, h3, h4, h5, h6, h7, h8, h9, h10, h11, h12, h13, h14, h15, h16, h17, h18, h19, h20, h21, h22, h23, h24, h25, h26, h27, h28, h29, h30, h31, h32, h33, h34, and_true] at hF
    refine ⟨rfl, _, rfl, ?_⟩
    simp only [d_c, h0, h1, h2, h3, h4, h5, h6, h7, h8, h9, h10, h11, h12, h13, h14, h15, h16, h17, h18, h19, h20, h21, h22, h23, h24, h25, h26, h27, h28, h29, h30, h31, h32, h33, h34]
    clear hl ht h0 h1 h2 h3 h4 h5 h6 h7 h8 h9 h10 h11 h12 h13 h14 h15 h16 h17 h18 h19 h20 h21 h22 h23 h24 h25 h26 h27 h28 h29 h30 h31 h32 h33 h34
    (repeat' split) <;> omega
  · intro hF
    simp only [s3o50, facts_cons, facts_nil, lt_t, lt_f, le_t, le_f, eq_t, eq_f, d_c, h0, h1, h2, h3, h4, h5, h6, h7, h8, h9, h10, h11, h12, h13, h14, h15, h16, h17, h18, h19, h20, h21, h22, h23, h24, h25, h26, h27, h28, h29, h30, h31, h32, h33, h34, and_true] at hF
    refine ⟨rfl, _, rfl, ?_⟩
    simp only [d_c, h0, h1, h2, h3, h4, h5, h6, h7, h8, h9, h10, h11, h12, h13, h14, h15, h16, h17, h18, h19, h20, h21, h22, h23, h24, h25, h26, h27, h28, h29, h30, h31, h32, h33, h34]
    clear hl ht h0 h1 h2 h3 h4 h5 h6 h7 h8 h9 h10 h11 h12 h13 h14 h15 h16 h17 h18 h19 h20 h21 h22 h23 h24 h25 h26 h27 h28 h29 h30 h31 h32 h33 h34
    (repeat' split) <;> omega
  · intro hF
    simp only [s3o51, facts_cons, facts_nil, lt_t, lt_f, le_t, le_f, eq_t, eq_f, d_c, h0, h1, h2, h3, h4, h5, h6, h7, h8, h9, h10, h11, h12, h13, h14, h15, h16, h17, h18, h19, h20, h21, h22, h23, h24, h25, h26, h27, h28, h29, h30, h31, h32, h33, h34, and_true] at hF
    refine ⟨rfl, _, rfl, ?_⟩
    simp only [d_c, h0, h1, h2, h3, h4, h5, h6, h7, h8, h9, h10, h11, h12, h13, h14, h15, h16, h17, h18, h19, h20, h21, h22, h23, h24, h25, h26, h27, h28, h29, h30, h31, h32, h33, h34]
    clear hl ht h0 h1 h2 h3 h4 h5 h6 h7 h8 h9 h10 h11 h12 h13 h14 h15 h16 h17 h18 h19 h20 h21 h22 h23 h24 h25 h26 h27 h28 h29 h30 h31 h32 h33 h34
    (repeat' split) <;> omega
  · intro hF
    simp only [s3o52, facts_cons, facts_nil, lt_t, lt_f, le_t, le_f, eq_t, eq_f, d_c, h0, h1, h2, h3, h4, h5, h6, h7, h8, h9, h10, h11, h12, h13, h14, h15, h16, h17, h18, h19, h20, h21, h22, h23, h24, h25, h26, h27, h28, h29, h30, h31, h32, h33, h34, and_true] at hF
    refine ⟨rfl, _, rfl, ?_⟩
    simp only [d_c, h0, h1, h2, h3, h4, h5, h6, h7, h8, h9, h10, h11, h12, h13, h14, h15, h16, h17, h18, h19, h20, h21, h22, h23, h24, h25, h26, h27, h28, h29, h30, h31, h32, h33, h34]
    clear hl ht h0 h1 h2 h3 h4 h5 h6 h7 h8 h9 h10 h11 h12 h13 h14 h15 h16 h17 h18 h19 h20 h21 h22 h23 h24 h25 h26 h27 h28 h29 h30 h31 h32 h33 h34
    (repeat' split) <;> omega
  · intro hF
    simp only [s3o53, facts_cons, facts_nil, lt_t, lt_f, le_t, le_f, eq_t, eq_f, d_c, h0, h1, h2, h3, h4, h5, h6, h7, h8, h9, h10, h11, h12, h13, h14, h15, h16, h17, h18, h19, h20, h21, h22, h23, h24, h25, h26, h27, h28, h29, h30, h31, h32, h33, h34, and_true] at hF
    refine ⟨rfl, _, rfl, ?_⟩
    simp only [d_c, h0, h1, h2, h3, h4, h5, h6, h7, h8, h9, h10, h11, h12, h13, h14, h15, h16, h17, h18, h19, h20, h21, h22, h23, h24, h25, h26, h27, h28, h29, h30, h31, h32, h33, h34]
    clear hl ht h0 h1 h2 h3 h4 h5 h6 h7 h8 h9 h10 h11 h12 h13 h14 h15 h16 h17 h18 h19 h20 h21 h22 h23 h24 h25 h26 h27 h28 h29 h30 h31 h32 h33 h34
    (repeat' split) <;> omega
  · intro hF
    simp only [s3o54, facts_cons, facts_nil, lt_t, lt_f, le_t, le_f, eq_t, eq_f, d_c, h0, h1, h2, h3, h4, h5, h6, h7, h8, h9, h10, h11, h12, h13, h14, h15, h16, h17, h18, h19, h20, h21, h22, h23, h24, h25, h26, h27, h28, h29, h30, h31, h32, h33, h34, and_true] at hF
    refine ⟨rfl, _, rfl, ?_⟩
    simp only [d_c, h0, h1, h2, h3, h4, h5, h6, h7, h8, h9, h10, h11, h12, h13, h14, h15, h16, h17, h18, h19, h20, h21, h22, h23, h24, h25, h26, h27, h28, h29, h30, h31, h32, h33, h34]
    clear hl ht h0 h1 h2 h3 h4 h5 h6 h7 h8 h9 h10 h11 h12 h13 h14 h15 h16 h17 h18 h19 h20 h21 h22 h23 h24 h25 h26 h27 h28 h29 h30 h31 h32 h33 h34
    (repeat' split) <;> omega
  · intro hF
    simp only [s3o55, facts_cons, facts_nil, lt_t, lt_f, le_t, le_f, eq_t, eq_f, d_c, h0, h1, h2, h3, h4, h5, h6, h7, h8, h9, h10, h11, h12, h13, h14, h15, h16, h17, h18, h19, h20, h21, h22, h23, h24, h25, h26, h27, h28, h29, h30, h31, h32, h33, h34, and_true] at hF
    refine ⟨rfl, _, rfl, ?_⟩
    simp only [d_c, h0, h1, h2, h3, h4, h5, h6, h7, h8, h9, h10, h11, h12, h13, h14, h15, h16, h17, h18, h19, h20, h21, h22, h23, h24, h25, h26, h27, h28, h29, h30, h31, h32, h33, h34]
    clear hl ht h0 h1 h2 h3 h4 h5 h6 h7 h8 h9 h10 h11 h12 h13 h14 h15 h16 h17 h18 h19 h20 h21 h22 h23 h24 h25 h26 h27 h28 h29 h30 h31 h32 h33 h34
    (repeat' split) <;> omega
  · intro hF
    simp only [s3o56, facts_cons, facts_nil, lt_t, lt_f, le_t, le_f, eq_t, eq_f, d_c, h0, h1, h2, h3, h4, h5, h6, h7, h8, h9, h10, h11, h12, h13, h14, h15, h16, h17, h18, h19, h20, h21, h22, h23, h24, h25, h26, h27, h28, h29, h30, h31, h32, h33, h34, and_true] at hF
    refine ⟨rfl, _, rfl, ?_⟩
    simp only [d_c, h0, h1, h2, h3, h4, h5, h6, h7, h8, h9, h10, h11, h12, h13, h14, h15, h16, h17, h18, h19, h20, h21, h22, h23, h24, h25, h26, h27, h28, h29, h30, h31, h32, h33, h34]
    clear hl ht h0 h1 h2 h3 h4 h5 h6 h7 h8 h9 h10 h11 h12 h13 h14 h15 h16 h17 h18 h19 h20 h21 h22 h23 h24 h25 h26 h27 h28 h29 h30 h31 h32 h33 h34
    (repeat' split) <;> omega
  · intro hF
    simp only [s3o57, facts_cons, facts_nil, lt_t, lt_f, le_t, le_f, eq_t, eq_f, d_c, h0, h1, h2, h3, h4, h5, h6, h7, h8, h9, h10, h11, h12, h13, h14, h15, h16, h17, h18, h19, h20, h21, h22, h23, h24, h25, h26, h27, h28, h29, h30, h31, h32, h33, h34, and_true] at hF
    refine ⟨rfl, _, rfl, ?_⟩
    simp only [d_c, h0, h1, h2, h3, h4, h5, h6, h7, h8, h9, h10, h11, h12, h13, h14, h15, h16, h17, h18, h19, h20, h21, h22, h23, h24, h25, h26, h27, h28, h29, h30, h31, h32, h33, h34]
    clear hl ht h0 h1 h2 h3 h4 h5 h6 h7 h8 h9 h10 h11 h12 h13 h14 h15 h16 h17 h18 h19 h20 h21 h22 h23 h24 h25 h26 h27 h28 h29 h30 h31 h32 h33 h34
    (repeat' split) <;> omega
  · intro hF
    simp only [s3o58, facts_cons, facts_nil, lt_t, lt_f, le_t, le_f, eq_t, eq_f, d_c, h0, h1, h2, h3, h4, h5, h6, h7, h8, h9, h10, h11, h12, h13, h14, h15, h16, h17, h18, h19, h20, h21, h22, h23, h24, h25, h26, h27, h28, h29, h30, h31, h32, h33, h34, and_true] at hF
    refine ⟨rfl, _, rfl, ?_⟩
    simp only [d_c, h0, h1, h2, h3, h4, h5, h6, h7, h8, h9, h10, h11, h12, h13, h14, h15, h16, h17, h18, h19, h20, h21, h22, h23, h24, h25, h26, h27, h28, h29, h30, h31, h32, h33, h34]
    clear hl ht h0 h1 h2 h3 h4 h5 h6 h7 h8 h9 h10 h11 h12 h13 h14 h15 h16 h17 h18 h19 h20 h21 h22 h23 h24 h25 h26 h27 h28 h29 h30 h31 h32 h33 h34
    (repeat' split) <;> omega
  · intro hF
    simp only [s3o59, facts_cons, facts_nil, lt_t, lt_f, le_t, le_f, eq_t, eq_f, d_c, h0, h1, h2, h3, h4, h5, h6, h7, h8, h9, h10, h11, h12, h13, h14, h15, h16, h17, h18, h19, h20, h21, h22, h23, h24, h25, h26, h27, h28, h29, h30, h31, h32, h33, h34, and_true] at hF
    refine ⟨rfl, _, rfl, ?_⟩
    simp only [d_c, h0, h1, h2, h3, h4, h5, h6, h7, h8, h9, h10, h11, h12, h13, h14, h15, h16, h17, h18, h19, h20, h21, h22, h23, h24, h25, h26, h27, h28, h29, h30, h31, h32, h33, h34]
    clear hl ht h0 h1 h2 h3 h4 h5 h6 h7 h8 h9 h10 h11 h12 h13 h14 h15 h16 h17 h18 h19 h20 h21 h22 h23 h24 h25 h26 h27 h28 h29 h30 h31 h32 h33 h34
    (repeat' split) <;> omega
end Go.Proofs.Ytlkobjghpkifmaa
