/- The ways of the reference's decoding come to the number. -/
import Derived.Test.YtlkobjghpkifmaaPnC
set_option linter.unusedVariables false
set_option linter.unusedSimpArgs false
namespace Go.Proofs.Ytlkobjghpkifmaa
open Go Go.Sx Go.RowKit
set_option maxHeartbeats 4000000

theorem s1_ways (E : Env) (l t : Int) (hl : E.i 1 = l) (ht : E.i 2 = t) (l0 : -1 ≤ l) (l1 : l < 4611686018427387903) (t0 : 0 ≤ t) (t1 : t < 256) :
    ∀ o ∈ s1outs, Facts E o.facts → o.dead = false ∧ ∃ x : SE, o.res = .int .i64 x ∧ x.den E = pnM 256 l t := by
  obtain ⟨q, r, he, r0, r1⟩ : ∃ q r : Int, l + 1 = q * 256 + r ∧ 0 ≤ r ∧ r < 256 := ⟨(l + 1) / 256, (l + 1) % 256, by omega, by omega, by omega⟩
  have hpn : pnM 256 l t = if q * 256 + t ≤ l + 1 - 128 ∧ q * 256 + t < 4611686018427387904 - 256 then q * 256 + t + 256 else if l + 1 + 128 < q * 256 + t ∧ 256 ≤ q * 256 + t then q * 256 + t - 256 else q * 256 + t := by
    unfold pnM
    have e1 : (l + 1) - (l + 1) % 256 + t = q * 256 + t := by omega
    have e2 : (256 : Int) / 2 = 128 := by decide
    simp only [e1, e2]
  have h0 : s1e0.den E = (l + (1)) := by
    show E.i 1 + (1 : Int) = _
    rw [hl]
  have h1 : s1e1.den E = (l + (1)) := by
    show IntKind.i64.wrap (s1e0.den E) = _
    rw [h0]; exact w64 (by clear hpn hl ht h0; omega)
  have h2 : s1e2.den E = q := by
    show (s1e1.den E).tdiv 256 = q
    rw [h1, Int.tdiv_eq_ediv_of_nonneg (by clear hpn hl ht h0 h1; omega)]; omega
  have h3 : s1e3.den E = q := by
    show IntKind.i64.wrap (s1e2.den E) = _
    rw [h2]; exact w64 (by clear hpn hl ht h0 h1 h2; omega)
  have h4 : s1e4.den E = (q + (1)) := by
    show s1e3.den E + (1 : Int) = _
    rw [h3]
  have h5 : s1e5.den E = (q + (1)) := by
    show IntKind.i64.wrap (s1e4.den E) = _
    rw [h4]; exact w64 (by clear hpn hl ht h0 h1 h2 h3 h4; omega)
  have h6 : s1e6.den E = ((q + (1)) * (256)) := by
    show s1e5.den E * (256 : Int) = _
    rw [h5]
  have h7 : s1e7.den E = ((q + (1)) * (256)) := by
    show IntKind.i64.wrap (s1e6.den E) = _
    rw [h6]; exact w64 (by clear hpn hl ht h0 h1 h2 h3 h4 h5 h6; omega)
  have h8 : s1e8.den E = (((q + (1)) * (256)) + t) := by
    show s1e7.den E + E.i 2 = _
    rw [h7, ht]
  have h9 : s1e9.den E = (((q + (1)) * (256)) + t) := by
    show IntKind.i64.wrap (s1e8.den E) = _
    rw [h8]; exact w64 (by clear hpn hl ht h0 h1 h2 h3 h4 h5 h6 h7 h8; omega)
  have h10 : s1e10.den E = (q * (256)) := by
    show s1e3.den E * (256 : Int) = _
    rw [h3]
  have h11 : s1e11.den E = (q * (256)) := by
    show IntKind.i64.wrap (s1e10.den E) = _
    rw [h10]; exact w64 (by clear hpn hl ht h0 h1 h2 h3 h4 h5 h6 h7 h8 h9 h10; omega)
  have h12 : s1e12.den E = ((q * (256)) + t) := by
    show s1e11.den E + E.i 2 = _
    rw [h11, ht]
  have h13 : s1e13.den E = ((q * (256)) + t) := by
    show IntKind.i64.wrap (s1e12.den E) = _
    rw [h12]; exact w64 (by clear hpn hl ht h0 h1 h2 h3 h4 h5 h6 h7 h8 h9 h10 h11 h12; omega)
  have h14 : s1e14.den E = (q - (1)) := by
    show s1e3.den E - (1 : Int) = _
    rw [h3]
  have h15 : s1e15.den E = (q - (1)) := by
    show IntKind.i64.wrap (s1e14.den E) = _
    rw [h14]; exact w64 (by clear hpn hl ht h0 h1 h2 h3 h4 h5 h6 h7 h8 h9 h10 h11 h12 h13 h14; omega)
  have h16 : s1e16.den E = ((q - (1)) * (256)) := by
    show s1e15.den E * (256 : Int) = _
    rw [h15]
  have h17 : s1e17.den E = ((q - (1)) * (256)) := by
    show IntKind.i64.wrap (s1e16.den E) = _
    rw [h16]; exact w64 (by clear hpn hl ht h0 h1 h2 h3 h4 h5 h6 h7 h8 h9 h10 h11 h12 h13 h14 h15 h16; omega)
  have h18 : s1e18.den E = (((q - (1)) * (256)) + t) := by
    show s1e17.den E + E.i 2 = _
    rw [h17, ht]
  have h19 : s1e19.den E = (((q - (1)) * (256)) + t) := by
    show IntKind.i64.wrap (s1e18.den E) = _
    rw [h18]; exact w64 (by clear hpn hl ht h0 h1 h2 h3 h4 h5 h6 h7 h8 h9 h10 h11 h12 h13 h14 h15 h16 h17 h18; omega)
  have h20 : s1e20.den E = ((((q + (1)) * (256)) + t) - (l + (1))) := by
    show s1e9.den E - s1e1.den E = _
    rw [h9, h1]
  have h21 : s1e21.den E = ((((q + (1)) * (256)) + t) - (l + (1))) := by
    show IntKind.i64.wrap (s1e20.den E) = _
    rw [h20]; exact w64 (by clear hpn hl ht h0 h1 h2 h3 h4 h5 h6 h7 h8 h9 h10 h11 h12 h13 h14 h15 h16 h17 h18 h19 h20; omega)
  have h22 : s1e22.den E = ((0) - ((((q + (1)) * (256)) + t) - (l + (1)))) := by
    show (0 : Int) - s1e21.den E = _
    rw [h21]
  have h23 : s1e23.den E = ((0) - ((((q + (1)) * (256)) + t) - (l + (1)))) := by
    show IntKind.i64.wrap (s1e22.den E) = _
    rw [h22]; exact w64 (by clear hpn hl ht h0 h1 h2 h3 h4 h5 h6 h7 h8 h9 h10 h11 h12 h13 h14 h15 h16 h17 h18 h19 h20 h21 h22; omega)
  obtain ⟨m24, h24, hm24⟩ : ∃ m24 : Int, s1e24.den E = m24 ∧ (((((q + (1)) * (256)) + t) - (l + (1))) ≤ m24 ∧ ((0) - ((((q + (1)) * (256)) + t) - (l + (1)))) ≤ m24 ∧ (m24 = ((((q + (1)) * (256)) + t) - (l + (1))) ∨ m24 = ((0) - ((((q + (1)) * (256)) + t) - (l + (1)))))) := ⟨_, rfl, by
    show ((((q + (1)) * (256)) + t) - (l + (1))) ≤ imx (s1e21.den E) (s1e23.den E) ∧ ((0) - ((((q + (1)) * (256)) + t) - (l + (1)))) ≤ imx (s1e21.den E) (s1e23.den E) ∧ (imx (s1e21.den E) (s1e23.den E) = ((((q + (1)) * (256)) + t) - (l + (1))) ∨ imx (s1e21.den E) (s1e23.den E) = ((0) - ((((q + (1)) * (256)) + t) - (l + (1)))))
    rw [h21, h23]; unfold imx; clear hpn hl ht h0 h1 h2 h3 h4 h5 h6 h7 h8 h9 h10 h11 h12 h13 h14 h15 h16 h17 h18 h19 h20 h21 h22 h23; split <;> omega⟩
  have h25 : s1e25.den E = (((q * (256)) + t) - (l + (1))) := by
    show s1e13.den E - s1e1.den E = _
    rw [h13, h1]
  have h26 : s1e26.den E = (((q * (256)) + t) - (l + (1))) := by
    show IntKind.i64.wrap (s1e25.den E) = _
    rw [h25]; exact w64 (by clear hpn hl ht h0 h1 h2 h3 h4 h5 h6 h7 h8 h9 h10 h11 h12 h13 h14 h15 h16 h17 h18 h19 h20 h21 h22 h23 h24 h25; omega)
  have h27 : s1e27.den E = ((0) - (((q * (256)) + t) - (l + (1)))) := by
    show (0 : Int) - s1e26.den E = _
    rw [h26]
  have h28 : s1e28.den E = ((0) - (((q * (256)) + t) - (l + (1)))) := by
    show IntKind.i64.wrap (s1e27.den E) = _
    rw [h27]; exact w64 (by clear hpn hl ht h0 h1 h2 h3 h4 h5 h6 h7 h8 h9 h10 h11 h12 h13 h14 h15 h16 h17 h18 h19 h20 h21 h22 h23 h24 h25 h26 h27; omega)
  obtain ⟨m29, h29, hm29⟩ : ∃ m29 : Int, s1e29.den E = m29 ∧ ((((q * (256)) + t) - (l + (1))) ≤ m29 ∧ ((0) - (((q * (256)) + t) - (l + (1)))) ≤ m29 ∧ (m29 = (((q * (256)) + t) - (l + (1))) ∨ m29 = ((0) - (((q * (256)) + t) - (l + (1)))))) := ⟨_, rfl, by
    show (((q * (256)) + t) - (l + (1))) ≤ imx (s1e26.den E) (s1e28.den E) ∧ ((0) - (((q * (256)) + t) - (l + (1)))) ≤ imx (s1e26.den E) (s1e28.den E) ∧ (imx (s1e26.den E) (s1e28.den E) = (((q * (256)) + t) - (l + (1))) ∨ imx (s1e26.den E) (s1e28.den E) = ((0) - (((q * (256)) + t) - (l + (1)))))
    rw [h26, h28]; unfold imx; clear hpn hl ht h0 h1 h2 h3 h4 h5 h6 h7 h8 h9 h10 h11 h12 h13 h14 h15 h16 h17 h18 h19 h20 h21 h22 h23 h24 h25 h26 h27 h28; split <;> omega⟩
  have h30 : s1e30.den E = ((((q - (1)) * (256)) + t) - (l + (1))) := by
    show s1e19.den E - s1e1.den E = _
    rw [h19, h1]
  have h31 : s1e31.den E = ((((q - (1)) * (256)) + t) - (l + (1))) := by
    show IntKind.i64.wrap (s1e30.den E) = _
    rw [h30]; exact w64 (by clear hpn hl ht h0 h1 h2 h3 h4 h5 h6 h7 h8 h9 h10 h11 h12 h13 h14 h15 h16 h17 h18 h19 h20 h21 h22 h23 h24 h25 h26 h27 h28 h29 h30; omega)
  have h32 : s1e32.den E = ((0) - ((((q - (1)) * (256)) + t) - (l + (1)))) := by
    show (0 : Int) - s1e31.den E = _
    rw [h31]
  have h33 : s1e33.den E = ((0) - ((((q - (1)) * (256)) + t) - (l + (1)))) := by
    show IntKind.i64.wrap (s1e32.den E) = _
    rw [h32]; exact w64 (by clear hpn hl ht h0 h1 h2 h3 h4 h5 h6 h7 h8 h9 h10 h11 h12 h13 h14 h15 h16 h17 h18 h19 h20 h21 h22 h23 h24 h25 h26 h27 h28 h29 h30 h31 h32; omega)
  obtain ⟨m34, h34, hm34⟩ : ∃ m34 : Int, s1e34.den E = m34 ∧ (((((q - (1)) * (256)) + t) - (l + (1))) ≤ m34 ∧ ((0) - ((((q - (1)) * (256)) + t) - (l + (1)))) ≤ m34 ∧ (m34 = ((((q - (1)) * (256)) + t) - (l + (1))) ∨ m34 = ((0) - ((((q - (1)) * (256)) + t) - (l + (1)))))) := ⟨_, rfl, by
    show ((((q - (1)) * (256)) + t) - (l + (1))) ≤ imx (s1e31.den E) (s1e33.den E) ∧ ((0) - ((((q - (1)) * (256)) + t) - (l + (1)))) ≤ imx (s1e31.den E) (s1e33.den E) ∧ (imx (s1e31.den E) (s1e33.den E) = ((((q - (1)) * (256)) + t) - (l + (1))) ∨ imx (s1e31.den E) (s1e33.den E) = ((0) - ((((q - (1)) * (256)) + t) - (l + (1)))))
    rw [h31, h33]; unfold imx; clear hpn hl ht h0 h1 h2 h3 h4 h5 h6 h7 h8 h9 h10 h11 h12 h13 h14 h15 h16 h17 h18 h19 h20 h21 h22 h23 h24 h25 h26 h27 h28 h29 h30 h31 h32 h33; split <;> omega⟩
  rw [hpn]
  clear hpn
  obtain rfl : m24 = t - r + 256 := by clear h0 h1 h2 h3 h4 h5 h6 h7 h8 h9 h10 h11 h12 h13 h14 h15 h16 h17 h18 h19 h20 h21 h22 h23 h24 h25 h26 h27 h28 h29 h30 h31 h32 h33 h34; omega
  obtain rfl : m34 = 256 + r - t := by clear h0 h1 h2 h3 h4 h5 h6 h7 h8 h9 h10 h11 h12 h13 h14 h15 h16 h17 h18 h19 h20 h21 h22 h23 h24 h25 h26 h27 h28 h29 h30 h31 h32 h33 h34; omega
  clear hm24 hm34
  intro o ho
  simp only [s1outs, List.mem_cons, List.not_mem_nil, or_false] at ho
  rcases ho with rfl | rfl | rfl | rfl | rfl | rfl | rfl | rfl | rfl | rfl | rfl | rfl | rfl | rfl | rfl | rfl | rfl | rfl | rfl | rfl | rfl | rfl | rfl | rfl | rfl | rfl | rfl | rfl | rfl | rfl | rfl | rfl | rfl | rfl | rfl | rfl | rfl | rfl | rfl | rfl | rfl | rfl | rfl | rfl | rfl | rfl | rfl | rfl | rfl | rfl | rfl | rfl | rfl | rfl | rfl | rfl | rfl | rfl | rfl | rfl
  · intro hF
    simp only [s1o0, facts_cons, facts_nil, lt_t, lt_f, le_t, le_f, eq_t, eq_f, d_c, h0, h1, h2, h3, h4, h5, h6, h7, h8, h9, h10, h11, h12, h13, h14, h15, h16, h17, h18, h19, h20, h21, h22, h23, h24, h25, h26, h27, h28, h29, h30, h31, h32, h33, h34, and_true] at hF
    refine ⟨rfl, _, rfl, ?_⟩
    simp only [d_c, h0, h1, h2, h3, h4, h5, h6, h7, h8, h9, h10, h11, h12, h13, h14, h15, h16, h17, h18, h19, h20, h21, h22, h23, h24, h25, h26, h27, h28, h29, h30, h31, h32, h33, h34]
    clear hl ht h0 h1 h2 h3 h4 h5 h6 h7 h8 h9 h10 h11 h12 h13 h14 h15 h16 h17 h18 h19 h20 h21 h22 h23 h24 h25 h26 h27 h28 h29 h30 h31 h32 h33 h34
    (repeat' split) <;> omega
  · intro hF
    simp only [s1o1, facts_cons, facts_nil, lt_t, lt_f, le_t, le_f, eq_t, eq_f, d_c, h0, h1, h2, h3, h4, h5, h6, h7, h8, h9, h10, h11, h12, h13, h14, h15, h16, h17, h18, h19, h20, h21, h22, h23, h24, h25, h26, h27, h28, h29, h30, h31, h32, h33, h34, and_true] at hF
    refine ⟨rfl, _, rfl, ?_⟩
    simp only [d_c, h0, h1, h2, h3, h4, h5, h6, h7, h8, h9, h10, h11, h12, h13, h14, h15, h16, h17, h18, h19, h20, h21, h22, h23, h24, h25, h26, h27, h28, h29, h30, h31, h32, h33, h34]
    clear hl ht h0 h1 h2 h3 h4 h5 h6 h7 h8 h9 h10 h11 h12 h13 h14 h15 h16 h17 h18 h19 h20 h21 h22 h23 h24 h25 h26 h27 h28 h29 h30 h31 h32 h33 h34
    (repeat' split) <;> omega
  · intro hF
    simp only [s1o2, facts_cons, facts_nil, lt_t, lt_f, le_t, le_f, eq_t, eq_f, d_c, h0, h1, h2, h3, h4, h5, h6, h7, h8, h9, h10, h11, h12, h13, h14, h15, h16, h17, h18, h19, h20, h21, h22, h23, h24, h25, h26, h27, h28, h29, h30, h31, h32, h33, h34, and_true] at hF
    refine ⟨rfl, _, rfl, ?_⟩
    simp only [d_c, h0, h1, h2, h3, h4, h5, h6, h7, h8, h9, h10, h11, h12, h13, h14, h15, h16, h17, h18, h19, h20, h21, h22, h23, h24, h25, h26, h27, h28, h29, h30, h31, h32, h33, h34]
    clear hl ht h0 h1 h2 h3 h4 h5 h6 h7 h8 h9 h10 h11 h12 h13 h14 h15 h16 h17 h18 h19 h20 h21 h22 h23 h24 h25 h26 h27 h28 h29 h30 h31 h32 h33 h34
    (repeat' split) <;> omega
  · intro hF
    simp only [s1o3, facts_cons, facts_nil, lt_t, lt_f, le_t, le_f, eq_t, eq_f, d_c, h0, h1, h2, h3, h4, h5, h6, h7, h8, h9, h10, h11, h12, h13, h14, h15, h16, h17, h18, h19, h20, h21, h22, h23, h24, h25, h26, h27, h28, h29, h30, h31, h32, h33, h34, and_true] at hF
    refine ⟨rfl, _, rfl, ?_⟩
    simp only [d_c, h0, h1, h2, h3, h4, h5, h6, h7, h8, h9, h10, h11, h12, h13, h14, h15, h16, h17, h18, h19, h20, h21, h22, h23, h24, h25, h26, h27, h28, h29, h30, h31, h32, h33, h34]
    clear hl ht h0 h1 h2 h3 h4 h5 h6 h7 h8 h9 h10 h11 h12 h13 h14 h15 h16 h17 h18 h19 h20 h21 h22 h23 h24 h25 h26 h27 h28 h29 h30 h31 h32 h33 h34
    (repeat' split) <;> omega
  · intro hF
    simp only [s1o4, facts_cons, facts_nil, lt_t, lt_f, le_t, le_f, eq_t, eq_f, d_c, h0, h1, h2, h3, h4, h5, h6, h7, h8, h9, h10, h11, h12, h13, h14, h15, h16, h17, h18, h19, h20, h21, h22, h23, h24, h25, h26, h27, h28, h29, h30, h31, h32, h33, h34, and_true] at hF
    refine ⟨rfl, _, rfl, ?_⟩
    simp only [d_c, h0, h1, h2, h3, h4, h5, h6, h7, h8, h9, h10, h11, h12, h13, h14, h15, h16, h17, h18, h19, h20, h21, h22, h23, h24, h25, h26, h27, h28, h29, h30, h31, h32, h33, h34]
    clear hl ht h0 h1 h2 h3 h4 h5 h6 h7 h8 h9 h10 h11 h12 h13 h14 h15 h16 h17 h18 h19 h20 h21 h22 h23 h24 h25 h26 h27 h28 h29 h30 h31 h32 h33 h34
    (repeat' split) <;> omega
  · intro hF
    simp only [s1o5, facts_cons, facts_nil, lt_t, lt_f, le_t, le_f, eq_t, eq_f, d_c, h0, h1, h2, h3, h4, h5, h6, h7, h8, h9, h10, h11, h12, h13, h14, h15, h16, h17, h18, h19, h20, h21, h22, h23, h24, h25, h26, h27, h28, h29, h30, h31, h32, h33, h34, and_true] at hF
    refine ⟨rfl, _, rfl, ?_⟩
    simp only [d_c, h0, h1, h2, h3, h4, h5, h6, h7, h8, h9, h10, h11, h12, h13, h14, h15, h16, h17, h18, h19, h20, h21, h22, h23, h24, h25, h26, h27, h28, h29, h30, h31, h32, h33, h34]
    clear hl ht h0 h1 h2 h3 h4 h5 h6 h7 h8 h9 h10 h11 h12 h13 h14 h15 h16 h17 h18 h19 h20 h21 h22 h23 h24 h25 h26 h27 h28 h29 h30 h31 h32 h33 h34
    (repeat' split) <;> omega
  · intro hF
    simp only [s1o6, facts_cons, facts_nil, lt_t, lt_f, le_t, le_f, eq_t, eq_f, d_c, h0, h1, h2, h3, h4, h5, h6, h7, h8, h9, h10, h11, h12, h13, h14, h15, h16, h17, h18, h19, h20, h21, h22, h23, h24, h25, h26, h27, h28, h29, h30, h31, h32, h33, h34, and_true] at hF
    refine ⟨rfl, _, rfl, ?_⟩
    simp only [d_c, h0, h1, h2, h3, h4, h5, h6, h7, h8, h9, h10, h11, h12, h13, h14, h15, h16, h17, h18, h19, h20, h21, h22, h23, h24, h25, h26, h27, h28, h29, h30, h31, h32, h33, h34]
    clear hl ht h0 h1 h2 h3 h4 h5 h6 h7 h8 h9 h10 h11 h12 h13 h14 h15 h16 h17 h18 h19 h20 h21 h22 h23 h24 h25 h26 h27 h28 h29 h30 h31 h32 h33 h34
    (repeat' split) <;> omega
  · intro hF
    simp only [s1o7, facts_cons, facts_nil, lt_t, lt_f, le_t, le_f, eq_t, eq_f, d_c, h0, h1, h2, h3, h4, h5, h6, h7, h8, h9, h10, h11, h12, h13, h14, h15, h16, h17, h18, h19, h20, h21, h22, h23, h24, h25, h26, h27, h28, h29, h30, h31, h32, h33, h34, and_true] at hF
    refine ⟨rfl, _, rfl, ?_⟩
    simp only [d_c, h0, h1, h2, h3, h4, h5, h6, h7, h8, h9, h10, h11, h12, h13, h14, h15, h16, h17, h18, h19, h20, h21, h22, h23, h24, h25, h26, h27, h28, h29, h30, h31, h32, h33, h34]
    clear hl ht h0 h1 h2 h3 h4 h5 h6 h7 h8 h9 h10 h11 h12 h13 h14 h15 h16 h17 h18 h19 h20 h21 h22 h23 h24 h25 h26 h27 h28 h29 h30 h31 h32 h33 h34
    (repeat' split) <;> omega
  · intro hF
    simp only [s1o8, facts_cons, facts_nil, lt_t, lt_f, le_t, le_f, eq_t, eq_f, d_c, h0, h1, h2, h3, h4, h5, h6, h7, h8, h9, h10, h11, h12, h13, h14, h15, h16, h17, h18, h19, h20, h21, h22, h23, h24, h25, h26, h27, h28, h29, h30, h31, h32, h33, h34, and_true] at hF
    refine ⟨rfl, _, rfl, ?_⟩
    simp only [d_c, h0, h1, h2, h3, h4, h5, h6, h7, h8, h9, h10, h11, h12, h13, h14, h15, h16, h17, h18, h19, h20, h21, h22, h23, h24, h25, h26, h27, h28, h29, h30, h31, h32, h33, h34]
    clear hl ht h0 h1 h2 h3 h4 h5 h6 h7 h8 h9 h10 h11 h12 h13 h14 h15 h16 h17 h18 h19 h20 h21 h22 h23 h24 h25 h26 h27 h28 h29 h30 h31 h32 h33 h34
    (repeat' split) <;> omega
  · intro hF
    simp only [s1o9, facts_cons, facts_nil, lt_t, lt_f, le_t, le_f, eq_t, eq_f, d_c, h0, h1, h2, h3, h4, h5, h6, h7, h8, h9, h10, h11, h12, h13, h14, h15, h16, h17, h18, h19, h20, h21, h22, h23, h24, h25, h26, h27, h28, h29, h30, h31, h32, h33, h34, and_true] at hF
    refine ⟨rfl, _, rfl, ?_⟩
    simp only [d_c, h0, h1, h2, h3, h4, h5, h6, h7, h8, h9, h10, h11, h12, h13, h14, h15, h16, h17, h18, h19, h20, h21, h22, h23, h24, h25, h26, h27, h28, h29, h30, h31, h32, h33, h34]
    clear hl ht h0 h1 h2 h3 h4 h5 h6 h7 h8 h9 h10 h11 h12 h13 h14 h15 h16 h17 h18 h19 h20 h21 h22 h23 h24 h25 h26 h27 h28 h29 h30 h31 h32 h33 h34
    (repeat' split) <;> omega
  · intro hF
    simp only [s1o10, facts_cons, facts_nil, lt_t, lt_f, le_t, le_f, eq_t, eq_f, d_c, h0, h1, h2, h3, h4, h5, h6, h7, h8, h9, h10, h11, h12, h13, h14, h15, h16, h17, h18, h19, h20, h21, h22, h23, h24, h25, h26, h27, h28, h29, h30, h31, h32, h33, h34, and_true] at hF
    refine ⟨rfl, _, rfl, ?_⟩
    simp only [d_c, h0, h1, h2, h3, h4, h5, h6, h7, h8, h9, h10, h11, h12, h13, h14, h15, h16, h17, h18, h19, h20, h21, h22, h23, h24, h25, h26, h27, h28, h29, h30, h31, h32, h33, h34]
    clear hl ht h0 h1 h2 h3 h4 h5 h6 h7 h8 h9 h10 h11 h12 h13 h14 h15 h16 h17 h18 h19 h20 h21 h22 h23 h24 h25 h26 h27 h28 h29 h30 h31 h32 h33 h34
    (repeat' split) <;> omega
  · intro hF
    simp only [s1o11, facts_cons, facts_nil, lt_t, lt_f, le_t, le_f, eq_t, eq_f, d_c, h0, h1, h2, h3, h4, h5, h6, h7, h8, h9, h10, h11, h12, h13, h14, h15, h16, h17, h18, h19, h20, h21, h22, h23, h24, h25, h26, h27, h28, h29, h30, h31, h32, h33, h34, and_true] at hF
    refine ⟨rfl, _, rfl, ?_⟩
    simp only [d_c, h0, h1, h2, h3, h4, h5, h6, h7, h8, h9, h10, h11, h12, h13, h14, h15, h16, h17, h18, h19, h20, h21, h22, h23, h24, h25, h26, h27, h28, h29, h30, h31, h32, h33, h34]
    clear hl ht h0 h1 h2 h3 h4 h5 h6 h7 h8 h9 h10 h11 h12 h13 h14 h15 h16 h17 h18 h19 h20 h21 h22 h23 h24 h25 h26 h27 h28 h29 h30 h31 h32 h33 h34
    (repeat' split) <;> omega
  · intro hF
    simp only [s1o12, facts_cons, facts_nil, lt_t, lt_f, le_t, le_f, eq_t, eq_f, d_c, h0, h1, h2, h3, h4, h5, h6, h7, h8, h9, h10, h11, h12, h13, h14, h15, h16, h17, h18, h19, h20, h21, h22, h23, h24, h25, h26, h27, h28, h29, h30, h31, h32, h33, h34, and_true] at hF
    refine ⟨rfl, _, rfl, ?_⟩
    simp only [d_c, h0, h1, h2, h3, h4, h5, h6, h7, h8, h9, h10, h11, h12, h13, h14, h15, h16, h17, h18, h19, h20, h21, h22, h23, h24, h25, h26, h27, h28, h29, h30, h31, h32, h33, h34]
    clear hl ht h0 h1 h2 h3 h4 h5 h6 h7 h8 h9 h10 h11 h12 h13 h14 h15 h16 h17 h18 h19 h20 h21 h22 h23 h24 h25 h26 h27 h28 h29 h30 h31 h32 h33 h34
    (repeat' split) <;> omega
  · intro hF
    simp only [s1o13, facts_cons, facts_nil, lt_t, lt_f, le_t, le_f, eq_t, eq_f, d_c, h0, h1, h2, h3, h4, h5, h6, h7, h8, h9, h10, h11, h12, h13, h14, h15, h16, h17, h18, h19, h20, h21, h22, h23, h24, h25, h26, h27, h28, h29, h30, h31, h32, h33, h34, and_true] at hF
    refine ⟨rfl, _, rfl, ?_⟩
    simp only [d_c, h0, h1, h2, h3, h4, h5, h6, h7, h8, h9, h10, h11, h12, h13, h14, h15, h16, h17, h18, h19, h20, h21, h22, h23, h24, h25, h26, h27, h28, h29, h30, h31, h32, h33, h34]
    clear hl ht h0 h1 h2 h3 h4 h5 h6 h7 h8 h9 h10 h11 h12 h13 h14 h15 h16 h17 h18 h19 h20 h21 h22 h23 h24 h25 h26 h27 h28 h29 h30 h31 h32 h33 h34
    (repeat' split) <;> omega
  · intro hF
    simp only [s1o14, facts_cons, facts_nil, lt_t, lt_f, le_t, le_f, eq_t, eq_f, d_c, h0, h1, h2, h3, h4, h5, h6, h7, h8, h9, h10, h11, h12, h13, h14, h15, h16, h17, h18, h19, h20, h21, h22, h23, h24, h25, h26, h27, h28, h29, h30, h31, h32, h33, h34, and_true] at hF
    refine ⟨rfl, _, rfl, ?_⟩
    simp only [d_c, h0, h1, h2, h3, h4, h5, h6, h7, h8, h9, h10, h11, h12, h13, h14, h15, h16, h17, h18, h19, h20, h21, h22, h23, h24, h25, h26, h27, h28, h29, h30, h31, h32, h33, h34]
    clear hl ht h0 h1 h2 h3 h4 h5 h6 h7 h8 h9 h10 h11 h12 h13 h14 h15 h16 h17 h18 h19 h20 h21 h22 h23 h24 h25 h26 h27 h28 h29 h30 h31 h32 h33 h34
    (repeat' split) <;> omega
  · intro hF
    simp only [s1o15, facts_cons, facts_nil, lt_t, lt_f, le_t, le_f, eq_t, eq_f, d_c, h0, h1, h2, h3, h4, h5, h6, h7, h8, h9, h10, h11, h12, h13, h14, h15, h16, h17, h18, h19, h20, h21, h22, h23, h24, h25, h26, h27, h28, h29, h30, h31, h32, h33, h34, and_true] at hF
    refine ⟨rfl, _, rfl, ?_⟩
    simp only [d_c, h0, h1, h2, h3, h4, h5, h6, h7, h8, h9, h10, h11, h12, h13, h14, h15, h16, h17, h18, h19, h20, h21, h22, h23, h24, h25, h26, h27, h28, h29, h30, h31, h32, h33, h34]
    clear hl ht h0 h1 h2 h3 h4 h5 h6 h7 h8 h9 h10 h11 h12 h13 h14 h15 h16 h17 h18 h19 h20 h21 h22 h23 h24 h25 h26 h27 h28 h29 h30 h31 h32 h33 h34
    (repeat' split) <;> omega
  · intro hF
    simp only [s1o16, facts_cons, facts_nil, lt_t, lt_f, le_t, le_f, eq_t, eq_f, d_c, h0, h1, h2, h3, h4, h5, h6, h7, h8, h9, h10, h11, h12, h13, h14, h15, h16, h17, h18, h19, h20, h21, h22, h23, h24, h25, h26, h27, h28, h29, h30, h31, h32, h33, h34, and_true] at hF
    refine ⟨rfl, _, rfl, ?_⟩
    simp only [d_c, h0, h1, h2, h3, h4, h5, h6, h7, h8, h9, h10, h11, h12, h13, h14, h15, h16, h17, h18, h19, h20, h21, h22, h23, h24, h25, h26, h27, h28, h29, h30, h31, h32, h33, h34]
    clear hl ht h0 h1 h2 h3 h4 h5 h6 h7 h8 h9 h10 h11 h12 h13 h14 h15 h16 h17 h18 h19 h20 h21 h22 h23 h24 h25 h26 h27 h28 h29 h30 h31 h32 h33 h34
    (repeat' split) <;> omega
  · intro hF
    simp only [s1o17, facts_cons, facts_nil, lt_t, lt_f, le_t, le_f, eq_t, eq_f, d_c, h0, h1, h2, h3, h4, h5, h6, h7, h8, h9, h10, h11, h12, h13, h14, h15, h16, h17, h18, h19, h20, h21, h22, h23, h24, h25, h26, h27, h28, h29, h30, h31, h32, h33, h34, and_true] at hF
    refine ⟨rfl, _, rfl, ?_⟩
    simp only [d_c, h0, h1, h2, h3, h4, h5, h6, h7, h8, h9, h10, h11, h12, h13, h14, h15, h16, h17, h18, h19, h20, h21, h22, h23, h24, h25, h26, h27, h28, h29, h30, h31, h32, h33, h34]
    clear hl ht h0 h1 h2 h3 h4 h5 h6 h7 h8 h9 h10 h11 h12 h13 h14 h15 h16 h17 h18 h19 h20 h21 h22 h23 h24 h25 h26 h27 h28 h29 h30 h31 h32 h33 h34
    (repeat' split) <;> omega
  · intro hF
    simp only [s1o18, facts_cons, facts_nil, lt_t, lt_f, le_t, le_f, eq_t, eq_f, d_c, h0, h1, h2, h3, h4, h5, h6, h7, h8, h9, h10, h11, h12, h13, h14, h15, h16, h17, h18, h19, h20, h21, h22, h23, h24, h25, h26, h27, h28, h29, h30, h31, h32, h33, h34, and_true] at hF
    refine ⟨rfl, _, rfl, ?_⟩
    simp only [d_c, h0, h1, h2, h3, h4, h5, h6, h7, h8, h9, h10, h11, h12, h13, h14, h15, h16, h17, h18, h19, h20, h21, h22, h23, h24, h25, h26, h27, h28, h29, h30, h31, h32, h33, h34]
    clear hl ht h0 h1 h2 h3 h4 h5 h6 h7 h8 h9 h10 h11 h12 h13 h14 h15 h16 h17 h18 h19 h20 h21 h22 h23 h24 h25 h26 h27 h28 h29 h30 h31 h32 h33 h34
    (repeat' split) <;> omega
  · intro hF
    simp only [s1o19, facts_cons, facts_nil, lt_t, lt_f, le_t, le_f, eq_t, eq_f, d_c, h0, h1, h2, h3, h4, h5, h6, h7, h8, h9, h10, h11, h12, h13, h14, h15, h16, h17, h18, h19, h20, h21, h22, h23, h24, h25, h26, h27, h28, h29, h30, h31, h32, h33, h34, and_true] at hF
    refine ⟨rfl, _, rfl, ?_⟩
    simp only [d_c, h0, h1, h2, h3, h4, h5, h6, h7, h8, h9, h10, h11, h12, h13, h14, h15, h16, h17, h18, h19, h20, h21, h22, h23, h24, h25, h26, h27, h28, h29, h30, h31, h32, h33, h34]
    clear hl ht h0 h1 h2 h3 h4 h5 h6 h7 h8 h9 h10 h11 h12 h13 h14 h15 h16 h17 h18 h19 h20 h21 h22 h23 h24 h25 h26 h27 h28 h29 h30 h31 h32 h33 h34
    (repeat' split) <;> omega
  · intro hF
    simp only [s1o20, facts_cons, facts_nil, lt_t, lt_f, le_t, le_f, eq_t, eq_f, d_c, h0, h1, h2, h3, h4, h5, h6, h7, h8, h9, h10, h11, h12, h13, h14, h15, h16, h17, h18, h19, h20, h21, h22, h23, h24, h25, h26, h27, h28, h29, h30, h31, h32, h33, h34, and_true] at hF
    refine ⟨rfl, _, rfl, ?_⟩
    simp only [d_c, h0, h1, h2, h3, h4, h5, h6, h7, h8, h9, h10, h11, h12, h13, h14, h15, h16, h17, h18, h19, h20, h21, h22, h23, h24, h25, h26, h27, h28, h29, h30, h31, h32, h33, h34]
    clear hl ht h0 h1 h2 h3 h4 h5 h6 h7 h8 h9 h10 h11 h12 h13 h14 h15 h16 h17 h18 h19 h20 h21 h22 h23 h24 h25 h26 h27 h28 h29 h30 h31 h32 h33 h34
    (repeat' split) <;> omega
  · intro hF
    simp only [s1o21, facts_cons, facts_nil, lt_t, lt_f, le_t, le_f, eq_t, eq_f, d_c, h0, h1, h2, h3, h4, h5, h6, h7, h8, h9, h10, h11, h12, h13, h14, h15, h16, h17, h18, h19, h20, h21, h22, h23, h24, h25, h26, h27, h28, h29, h30, h31, h32, h33, h34, and_true] at hF
    refine ⟨rfl, _, rfl, ?_⟩
    simp only [d_c, h0, h1, h2, h3, h4, h5, h6, h7, h8, h9, h10, h11, h12, h13, h14, h15, h16, h17, h18, h19, h20, h21, h22, h23, h24, h25, h26, h27, h28, h29, h30, h31, h32, h33, h34]
    clear hl ht h0 h1 h2 h3 h4 h5 h6 h7 h8 h9 h10 h11 h12 h13 h14 h15 h16 h17 h18 h19 h20 h21 h22 h23 h24 h25 h26 h27 h28 h29 h30 h31 h32 h33 h34
    (repeat' split) <;> omega
  · intro hF
    simp only [s1o22, facts_cons, facts_nil, lt_t, lt_f, le_t, le_f, eq_t, eq_f, d_c, h0, h1, h2, h3, h4, h5, h6, h7, h8, h9, h10, h11, h12, h13, h14, h15, h16, h17, h18, h19, h20, h21, h22, h23, h24, h25, h26, h27, h28, h29, h30, h31, h32, h33, h34, and_true] at hF
    refine ⟨rfl, _, rfl, ?_⟩
    simp only [d_c, h0, h1, h2, h3, h4, h5, h6, h7, h8, h9, h10, h11, h12, h13, h14, h15, h16, h17, h18, h19, h20, h21, h22, h23, h24, h25, h26, h27, h28, h29, h30, h31, h32, h33, h34]
    clear hl ht h0 h1 h2 h3 h4 h5 h6 h7 h8 h9 h10 h11 h12 h13 h14 h15 h16 h17 h18 h19 h20 h21 h22 h23 h24 h25 h26 h27 h28 h29 h30 h31 h32 h33 h34
    (repeat' split) <;> omega
  · intro hF
    simp only [s1o23, facts_cons, facts_nil, lt_t, lt_f, le_t, le_f, eq_t, eq_f, d_c, h0, h1, h2, h3, h4, h5, h6, h7, h8, h9, h10, h11, h12, h13, h14, h15, h16, h17, h18, h19, h20, h21, h22, h23, h24, h25, h26, h27, h28, h29, h30, h31, h32, h33, h34, and_true] at hF
    refine ⟨rfl, _, rfl, ?_⟩
    simp only [d_c, h0, h1, h2, h3, h4, h5, h6, h7, h8, h9, h10, h11, h12, h13, h14, h15, h16, h17, h18, h19, h20, h21, h22, h23, h24, h25, h26, h27, h28, h29, h30, h31, h32, h33, h34]
    clear hl ht h0 h1 h2 h3 h4 h5 h6 h7 h8 h9 h10 h11 h12 h13 h14 h15 h16 h17 h18 h19 h20 h21 h22 h23 h24 h25 h26 h27 h28 h29 h30 h31 h32 h33 h34
    (repeat' split) <;> omega
  · intro hF
    simp only [s1o24, facts_cons, facts_nil, lt_t, lt_f, le_t, le_f, eq_t, eq_f, d_c, h0, h1, h2, h3, h4, h5, h6, h7, h8, h9, h10, h11, h12, h13, h14, h15, h16, h17, h18, h19, h20, h21, h22, h23, h24, h25, h26, h27, h28, h29, h30, h31, h32, h33, h34, and_true] at hF
    refine ⟨rfl, _, rfl, ?_⟩
    simp only [d_c, h0, h1, h2, h3, h4, h5, h6, h7, h8, h9, h10, h11, h12, h13, h14, h15, h16, h17, h18, h19, h20, h21, h22, h23, h24, h25, h26, h27, h28, h29, h30, h31, h32, h33, h34]
    clear hl ht h0 h1 h2 h3 h4 h5 h6 h7 h8 h9 h10 h11 h12 h13 h14 h15 h16 h17 h18 h19 h20 h21 h22 h23 h24 h25 h26 h27 h28 h29 h30 h31 h32 h33 h34
    (repeat' split) <;> omega
  · intro hF
    simp only [s1o25, facts_cons, facts_nil, lt_t, lt_f, le_t, le_f, eq_t, eq_f, d_c, h0, h1, h2, h3, h4, h5, h6, h7, h8, h9, h10, h11, h12, h13, h14, h15, h16, h17, h18, h19, h20, h21, h22, h23, h24, h25, h26, h27, h28, h29, h30, h31, h32, h33, h34, and_true] at hF
    refine ⟨rfl, _, rfl, ?_⟩
    simp only [d_c, h0, h1, h2, h3, h4, h5, h6, h7, h8, h9, h10, h11, h12, h13, h14, h15, h16, h17, h18, h19, h20, h21, h22, h23, h24, h25, h26, h27, h28, h29, h30, h31, h32, h33, h34]
    clear hl ht h0 h1 h2 h3 h4 h5 h6 h7 h8 h9 h10 h11 h12 h13 h14 h15 h16 h17 h18 h19 h20 h21 h22 h23 h24 h25 h26 h27 h28 h29 h30 h31 h32 h33 h34
    (repeat' split) <;> omega
  · intro hF
    simp only [s1o26, facts_cons, facts_nil, lt_t, lt_f, le_t, le_f, eq_t, eq_f, d_c, h0, h1, h2, h3, h4, h5, h6, h7, h8, h9, h10, h11, h12, h13, h14, h15, h16, h17, h18, h19, h20, h21, h22, h23, h24, h25, h26, h27, h28, h29, h30, h31, h32, h33, h34, and_true] at hF
    refine ⟨rfl, _, rfl, ?_⟩
    simp only [d_c, h0, h1, h2, h3, h4, h5, h6, h7, h8, h9, h10, h11, h12, h13, h14, h15, h16, h17, h18, h19, h20, h21, h22, h23, h24, h25, h26, h27, h28, h29, h30, h31, h32, h33, h34]
    clear hl ht h0 h1 h2 h3 h4 h5 h6 h7 h8 h9 h10 h11 h12 h13 h14 h15 h16 h17 h18 h19 h20 h21 h22 h23 h24 h25 h26 h27 h28 h29 h30 h31 h32 h33 h34
    (repeat' split) <;> omega
  · intro hF
    simp only [s1o27, facts_cons, facts_nil, lt_t, lt_f, le_t, le_f, eq_t, eq_f, d_c, h0, h1, h2, h3, h4, h5, h6, h7, h8, h9, h10, h11, h12, h13, h14, h15, h16, h17, h18, h19, h20, h21, h22, h23, h24, h25, h26, h27, h28, h29, h30, h31, h32, h33, h34, and_true] at hF
    refine ⟨rfl, _, rfl, ?_⟩
    simp only [d_c, h0, h1, h2, h3, h4, h5, h6, h7, h8, h9, h10, h11, h12, h13, h14, h15, h16, h17, h18, h19, h20, h21, h22, h23, h24, h25, h26, h27, h28, h29, h30, h31, h32, h33, h34]
    clear hl ht h0 h1 h2 h3 h4 h5 h6 h7 h8 h9 h10 h11 h12 h13 h14 h15 h16 h17 h18 h19 h20 h21 h22 h23 h24 h25 h26 h27 h28 h29 h30 h31 h32 h33 h34
    (repeat' split) <;> omega
  · intro hF
    simp only [s1o28, facts_cons, facts_nil, lt_t, lt_f, le_t, le_f, eq_t, eq_f, d_c, h0, h1, h2, h3, h4, h5, h6, h7, h8, h9, h10, h11, h12, h13, h14, h15, h16, h17, h18, h19, h20, h21, h22, h23, h24, h25, h26, h27, h28, h29, h30, h31, h32, h33, h34, and_true] at hF
    refine ⟨rfl, _, rfl, ?_⟩
    simp only [d_c, h0, h1, h2, h3, h4, h5, h6, h7, h8, h9, h10, h11, h12, h13, h14, h15, h16, h17, h18, h19, h20, h21, h22, h23, h24, h25, h26, h27, h28, h29, h30, h31, h32, h33, h34]
    clear hl ht h0 h1 h2 h3 h4 h5 h6 h7 h8 h9 h10 h11 h12 h13 h14 h15 h16 h17 h18 h19 h20 h21 h22 h23 h24 h25 h26 h27 h28 h29 h30 h31 h32 h33 h34
    (repeat' split) <;> omega
  · intro hF
    simp only [s1o29, facts_cons, facts_nil, lt_t, lt_f, le_t, le_f, eq_t, eq_f, d_c, h0, h1, h2, h3, h4, h5, h6, h7, h8, h9, h10, h11, h12, h13, h14, h15, h16, h17, h18, h19, h20, h21, h22, h23, h24, h25, h26, h27, h28, h29, h30, h31, h32, h33, h34, and_true] at hF
    refine ⟨rfl, _, rfl, ?_⟩
    simp only [d_c, h0, h1, h2, h3, h4, h5, h6, h7, h8, h9, h10, h11, h12, h13, h14, h15, h16, h17, h18, h19, h20, h21, h22, h23, h24, h25, h26, h27, h28, h29, h30, h31, h32, h33, h34]
    clear hl ht h0 h1 h2 h3 h4 h5 h6 h7 h8 h9 h10 h11 h12 h13 h14 h15 h16 h17 h18 h19 h20 h21 h22 h23 h24 h25 h26 h27 h28 h29 h30 h31 h32 h33 h34
    (repeat' split) <;> omega
  · intro hF
    simp only [s1o30, facts_cons, facts_nil, lt_t, lt_f, le_t, le_f, eq_t, eq_f, d_c, h0, h1, h2, h3, h4, h5, h6, h7, h8, h9, h10, h11, h12, h13, h14, h15, h16, h17, h18, h19, h20, h21, h22, h23, h24, h25, h26, h27, h28, h29, h30, h31, h32, h33, h34, and_true] at hF
    refine ⟨rfl, _, rfl, ?_⟩
    simp only [d_c, h0, h1, h2, h3, h4, h5, h6, h7, h8, h9, h10, h11, h12, h13, h14, h15, h16, h17, h18, h19, h20, h21, h22, h23, h24, h25, h26, h27, h28, h29, h30, h31, h32, h33, h34]
    clear hl ht h0 h1 h2 h3 h4 h5 h6 h7 h8 h9 h10 h11 h12 h13 h14 h15 h16 h17 h18 h19 h20 h21 h22 h23 h24 h25 h26 h27 h28 h29 h30 h31 h32 h33 h34
    (repeat' split) <;> omega
  · intro hF
    simp only [s1o31, facts_cons, facts_nil, lt_t, lt_f, le_t, le_f, eq_t, eq_f, d_c, h0, h1, h2, h3, h4, h5, h6, h7, h8, h9, h10, h11, h12, h13, h14, h15, h16, h17, h18, h19, h20, h21, h22, h23, h24, h25, h26, h27, h28, h29, h30, h31, h32, h33, h34, and_true] at hF
    refine ⟨rfl, _, rfl, ?_⟩
    simp only [d_c, h0, h1, h2, h3, h4, h5, h6, h7, h8, h9, h10, h11, h12, h13, h14, h15, h16, h17, h18, h19, h20, h21, h22, h23, h24, h25, h26, h27, h28, h29, h30, h31, h32, h33, h34]
    clear hl ht h0 h1 h2 h3 h4 h5 h6 h7 h8 h9 h10 h11 h12 h13 h14 h15 h16 h17 h18 h19 h20 h21 h22 h23 h24 h25 h26 h27 h28 h29 h30 h31 h32 h33 h34
    (repeat' split) <;> omega
  · intro hF
    simp only [s1o32, facts_cons, facts_nil, lt_t, lt_f, le_t, le_f, eq_t, eq_f, d_c, h0, h1, h2, h3, h4, h5, h6, h7, h8, h9, h10, h11, h12, h13, h14, h15, h16, h17, h18, h19, h20, h21, h22, h23, h24, h25, h26, h27, h28, h29, h30, h31, h32, h33, h34, and_true] at hF
    refine ⟨rfl, _, rfl, ?_⟩
    simp only [d_c, h0, h1, h2, h3, h4, h5, h6, h7, h8, h9, h10, h11, h12, h13, h14, h15, h16, h17, h18, h19, h20, h21, h22, h23, h24, h25, h26, h27, h28, h29, h30, h31, h32, h33, h34]
    clear hl ht h0 h1 h2 h3 h4 h5 h6 h7 h8 h9 h10 h11 h12 h13 h14 h15 h16 h17 h18 h19 h20 h21 h22 h23 h24 h25 h26 h27 h28 h29 h30 h31 h32 h33 h34
    (repeat' split) <;> omega
  · intro hF
    simp only [s1o33, facts_cons, facts_nil, lt_t, lt_f, le_t, le_f, eq_t, eq_f, d_c, h0, h1, h2, h3, h4, h5, h6, h7, h8, h9, h10, h11, h12, h13, h14, h15, h16, h17, h18, h19, h20, h21, h22, h23, h24, h25, h26, h27, h28, h29, h30, h31, h32, h33, h34, and_true] at hF
    refine ⟨rfl, _, rfl, ?_⟩
    simp only [d_c, h0, h1, h2, h3, h4, h5, h6, h7, h8, h9, h10, h11, h12, h13, h14, h15, h16, h17, h18, h19, h20, h21, h22, h23, h24, h25, h26, h27, h28, h29, h30, h31, h32, h33, h34]
    clear hl ht h0 h1 h2 h3 h4 h5 h6 h7 h8 h9 h10 h11 h12 h13 h14 h15 h16 h17 h18 h19 h20 h21 h22 h23 h24 h25 h26 h27 h28 h29 h30 h31 h32 h33 h34
    (repeat' split) <;> omega
  · intro hF
    simp only [s1o34, facts_cons, facts_nil, lt_t, lt_f, le_t, le_f, eq_t, eq_f, d_c, h0, h1, h2, h3, h4, h5, h6, h7, h8, h9, h10, h11, h12, h13, h14, h15, h16, h17, h18, h19, h20, h21, h22, h23, h24, h25, h26, h27, h28, h29, h30, h31, h32, h33, h34, and_true] at hF
    refine ⟨rfl, _, rfl, ?_⟩
    simp only [d_c, h0, h1, h2, h3, h4, h5, h6, h7, h8, h9, h10, h11, h12, h13, h14, h15, h16, h17, h18, h19, h20, h21, h22, h23, h24, h25, h26, h27, h28, h29, h30, h31, h32, h33, h34]
    clear hl ht h0 h1 h2 h3 h4 h5 h6 h7 h8 h9 h10 h11 h12 h13 h14 h15 h16 h17 h18 h19 h20 h21 h22 h23 h24 h25 h26 h27 h28 h29 h30 h31 h32 h33 h34
    (repeat' split) <;> omega
  · intro hF
    simp only [s1o35, facts_cons, facts_nil, lt_t, lt_f, le_t, le_f, eq_t, eq_f, d_c, h0, h1, h2, h3, h4, h5, h6, h7, h8, h9, h10, h11, h12, h13, h14, h15, h16, h17, h18, h19, h20, h21, h22, h23, h24, h25, h26, h27, h28, h29, h30, h31, h32, h33, h34, and_true] at hF
    refine ⟨rfl, _, rfl, ?_⟩
    simp only [d_c, h0, h1, h2, h3, h4, h5, h6, h7, h8, h9, h10, h11, h12, h13, h14, h15, h16, h17, h18, h19, h20, h21, h22, h23, h24, h25, h26, h27, h28, h29, h30, h31, h32, h33, h34]
    clear hl ht h0 h1 h2 h3 h4 h5 h6 h7 h8 h9 h10 h11 h12 h13 h14 h15 h16 h17 h18 h19 h20 h21 h22 h23 h24 h25 h26 h27 h28 h29 h30 h31 h32 h33 h34
    (repeat' split) <;> omega
  · intro hF
    simp only [s1o36, facts_cons, facts_nil, lt_t, lt_f, le_t, le_f, eq_t, eq_f, d_c, h0, h1, h2, h3, h4, h5, h6, h7, h8, h9, h10, h11, h12, h13, h14, h15, h16, h17, h18, h19, h20, h21, h22, h23, h24, h25, h26, h27, h28, h29, h30, h31, h32, h33, h34, and_true] at hF
    refine ⟨rfl, _, rfl, ?_⟩
    simp only [d_c, h0, h1, h2, h3, h4, h5, h6, h7, h8, h9, h10, h11, h12, h13, h14, h15, h16, h17, h18, h19, h20, h21, h22, h23, h24, h25, h26, h27, h28, h29, h30, h31, h32, h33, h34]
    clear hl ht h0 h1 h2 h3 h4 h5 h6 h7 h8 h9 h10 h11 h12 h13 h14 h15 h16 h17 h18 h19 h20 h21 h22 h23 h24 h25 h26 h27 h28 h29 h30 h31 h32 h33 h34
    (repeat' split) <;> omega
  · intro hF
    simp only [s1o37, facts_cons, facts_nil, lt_t, lt_f, le_t, le_f, eq_t, eq_f, d_c, h0, h1, h2, h3, h4, h5, h6, h7, h8, h9, h10, h11, h12, h13, h14, h15, h16, h17, h18, h19, h20, h21, h22, h23, h24, h25, h26, h27, h28, h29, h30, h31, h32, h33, h34, and_true] at hF
    refine ⟨rfl, _, rfl, ?_⟩
    simp only [d_c, h0, h1, h2, h3, h4, h5, h6, h7, h8, h9, h10, h11, h12, h13, h14, h15, h16, h17, h18, h19, h20, h21, h22, h23, h24, h25, h26, h27, h28, h29, h30, h31, h32, h33, h34]
    clear hl ht h0 h1 h2 h3 h4 h5 h6 h7 h8 h9 h10 h11 h12 h13 h14 h15 h16 h17 h18 h19 h20 h21 h22 h23 h24 h25 h26 h27 h28 h29 h30 h31 h32 h33 h34
    (repeat' split) <;> omega
  · intro hF
    simp only [s1o38, facts_cons, facts_nil, lt_t, lt_f, le_t, le_f, eq_t, eq_f, d_c, h0, h1, h2, h3, h4, h5, h6, h7, h8, h9, h10, h11, h12, h13, h14, h15, h16, h17, h18, h19, h20, h21, h22, h23, h24, h25, h26, h27, h28, h29, h30, h31, h32, h33, h34, and_true] at hF
    refine ⟨rfl, _, rfl, ?_⟩
    simp only [d_c, h0, h1, h2, h3, h4, h5, h6, h7, h8, h9, h10, h11, h12, h13, h14, h15, h16, h17, h18, h19, h20, h21, h22, h23, h24, h25, h26, h27, h28, h29, h30, h31, h32, h33, h34]
    clear hl ht h0 h1 h2 h3 h4 h5 h6 h7 h8 h9 h10 h11 h12 h13 h14 h15 h16 h17 h18 h19 h20 h21 h22 h23 h24 h25 h26 h27 h28 h29 h30 h31 h32 h33 h34
    (repeat' split) <;> omega
  · intro hF
    simp only [s1o39, facts_cons, facts_nil, lt_t, lt_f, le_t, le_f, eq_t, eq_f, d_c, h0, h1, h2, h3, h4, h5, h6, h7, h8, h9, h10, h11, h12, h13, h14, h15, h16, h17, h18, h19, h20, h21, h22, h23, h24, h25, h26, h27, h28, h29, h30, h31, h32, h33, h34, and_true] at hF
    refine ⟨rfl, _, rfl, ?_⟩
    simp only [d_c, h0, h1, h2, h3, h4, h5, h6, h7, h8, h9, h10, h11, h12, h13, h14, h15, h16, h17, h18, h19, h20, h21, h22, h23, h24, h25, h26, h27, h28, h29, h30, h31, h32, h33, h34]
    clear hl ht h0 h1 h2 h3 h4 h5 h6 h7 h8 h9 h10 h11 h12 h13 h14 h15 h16 h17 h18 h19 h20 h21 h22 h23 h24 h25 h26 h27 h28 h29 h30 h31 h32 h33 h34
    (repeat' split) <;> omega
  · intro hF
    simp only [s1o40, facts_cons, facts_nil, lt_t, lt_f, le_t, le_f, eq_t, eq_f, d_c, h0, h1, h2, h3, h4, h5, h6, h7, h8, h9, h10, h11, h12, h13, h14, h15, h16, h17, h18, h19, h20, h21, h22, h23, h24, h25, h26, h27, h28, h29, h30, h31, h32, h33, h34, and_true] at hF
    refine ⟨rfl, _, rfl, ?_⟩
    simp only [d_c, h0, h1, h2, h3, h4, h5, h6, h7, h8, h9, h10, h11, h12, h13, h14, h15, h16, h17, h18, h19, h20, h21, h22, h23, h24, h25, h26, h27, h28, h29, h30, h31, h32, h33, h34]
    clear hl ht h0 h1 h2 h3 h4 h5 h6 h7 h8 h9 h10 h11 h12 h13 h14 h15 h16 h17 h18 h19 h20 h21 h22 h23 h24 h25 h26 h27 h28 h29 h30 h31 h32 h33 h34
    (repeat' split) <;> omega
  · intro hF
    simp only [s1o41, facts_cons, facts_nil, lt_t, lt_f, le_t, le_f, eq_t, eq_f, d_c, h0, h1, h2, h3, h4, h5, h6, h7, h8, h9, h10, h11, h12, h13, h14, h15, h16, h17, h18, h19, h20, h21, h22, h23, h24, h25, h26, h27, h28, h29, h30, h31, h32, h33, h34, and_true] at hF
    refine ⟨rfl, _, rfl, ?_⟩
    simp only [d_c, h0, h1, h2, h3, h4, h5, h6, h7, h8, h9, h10, h11, h12, h13, h14, h15, h16, h17, h18, h19, h20, h21, h22, h23, h24, h25, h26, h27, h28, h29, h30, h31, h32, h33, h34]
    clear hl ht h0 h1 h2 h3 h4 h5 h6 h7 h8 h9 h10 h11 h12 h13 h14 h15 h16 h17 h18 h19 h20 h21 h22 h23 h24 h25 h26 h27 h28 h29 h30 h31 h32 h33 h34
    (repeat' split) <;> omega
  · intro hF
    simp only [s1o42, facts_cons, facts_nil, lt_t, lt_f, le_t, le_f, eq_t, eq_f, d_c, h0, h1, h2, h3, h4, h5, h6, h7, h8, h9, h10, h11, h12, h13, h14, h15, h16, h17, h18, h19, h20, h21, h22, h23, h24, h25, h26, h27, h28, h29, h30, h31, h32, h33, h34, and_true] at hF
    refine ⟨rfl, _, rfl, ?_⟩
    simp only [d_c, h0, h1, h2, h3, h4, h5, h6, h7, h8, h9, h10, h11, h12, h13, h14, h15, h16, h17, h18, h19, h20, h21, h22, h23, h24, h25, h26, h27, h28, h29, h30, h31, h32, h33, h34]
    clear hl ht h0 h1 h2 h3 h4 h5 h6 h7 h8 h9 h10 h11 h12 h13 h14 h15 h16 h17 h18 h19 h20 h21 h22 h23 h24 h25 h26 h27 h28 h29 h30 h31 h32 h33 h34
    (repeat' split) <;> omega
  · intro hF
    simp only [s1o43, facts_cons, facts_nil, lt_t, lt_f, le_t, le_f, eq_t, eq_f, d_c, h0, h1, h2, h3, h4, h5, h6, h7, h8, h9, h10, h11, h12, h13, h14, h15, h16, h17, h18, h19, h20, h21, h22, h23, h24, h25, h26, h27, h28, h29, h30, h31, h32, h33, h34, and_true] at hF
    refine ⟨rfl, _, rfl, ?_⟩
    simp only [d_c, h0, h1, h2, h3, h4, h5, h6, h7, h8, h9, h10, h11, h12, h13, h14, h15, h16, h17, h18, h19, h20, h21, h22, h23, h24, h25, h26, h27, h28, h29, h30, h31, h32, h33, h34]
    clear hl ht h0 h1 h2 h3 h4 h5 h6 h7 h8 h9 h10 h11 h12 h13 h14 h15 h16 h17 h18 h19 h20 h21 h22 h23 h24 h25 h26 h27 h28 h29 h30 h31 h32 h33 h34
    (repeat' split) <;> omega
  · intro hF
    simp only [s1o44, facts_cons, facts_nil, lt_t, lt_f, le_t, le_f, eq_t, eq_f, d_c, h0, h1, h2, h3, h4, h5, h6, h7, h8, h9, h10, h11, h12, h13, h14, h15, h16, h17, h18, h19, h20, h21, h22, h23, h24, h25, h26, h27, h28, h29, h30, h31, h32, h33, h34, and_true] at hF
    refine ⟨rfl, _, rfl, ?_⟩
    simp only [d_c, h0, h1, h2, h3, h4, h5, h6, h7, h8, h9, h10, h11, h12, h13, h14, h15, h16, h17, h18, h19, h20, h21, h22, h23, h24, h25, h26, h27, h28, h29, h30, h31, h32, h33, h34]
    clear hl ht h0 h1 h2 h3 h4 h5 h6 h7 h8 h9 h10 h11 h12 h13 h14 h15 h16 h17 h18 h19 h20 h21 h22 h23 h24 h25 h26 h27 h28 h29 h30 h31 h32 h33 h34
    (repeat' split) <;> omega
  · intro hF
    simp only [s1o45, facts_cons, facts_nil, lt_t, lt_f, le_t, le_f, eq_t, eq_f, d_c, h0, h1, h2, h3, h4, h5, h6, h7, h8, h9, h10, h11, h12, h13, h14, h15, h16, h17, h18, h19, h20, h21, h22, h23, h24, h25, h26, h27, h28, h29, h30, h31, h32, h33, h34, and_true] at hF
    refine ⟨rfl, _, rfl, ?_⟩
    simp only [d_c, h0, h1, h2, h3, h4, h5, h6, h7, h8, h9, h10, h11, h12, h13, h14, h15, h16, h17, h18, h19, h20, h21, h22, h23, h24, h25, h26, h27, h28, h29, h30, h31, h32, h33, h34]
    clear hl ht h0 h1 h2 h3 h4 h5 h6 h7 h8 h9 h10 h11 h12 h13 h14 h15 h16 h17 h18 h19 h20 h21 h22 h23 h24 h25 h26 h27 h28 h29 h30 h31 h32 h33 h34
    (repeat' split) <;> omega
  · intro hF
    simp only [s1o46, facts_cons, facts_nil, lt_t, lt_f, le_t, le_f, eq_t, eq_f, d_c, h0, h1, h2, h3, h4, h5, h6, h7, h8, h9, h10, h11, h12, h13, h14, h15, h16, h17, h18, h19, h20, h21, h22, h23, h24, h25, h26, h27, h28, h29, h30, h31, h32, h33, h34, and_true] at hF
    refine ⟨rfl, _, rfl, ?_⟩
    simp only [d_c, h0, h1, h2, h3, h4, h5, h6, h7, h8, h9, h10, h11, h12, h13, h14, h15, h16, h17, h18, h19, h20, h21, h22, h23, h24, h25, h26, h27, h28, h29, h30, h31, h32, h33, h34]
    clear hl ht h0 h1 h2 h3 h4 h5 h6 h7 h8 h9 h10 h11 h12 h13 h14 h15 h16 h17 h18 h19 h20 h21 h22 h23 h24 h25 h26 h27 h28 h29 h30 h31 h32 h33 h34
    (repeat' split) <;> omega
  · intro hF
    simp only [s1o47, facts_cons, facts_nil, lt_t, lt_f, le_t, le_f, eq_t, eq_f, d_c, h0, h1, h2, h3, h4, h5, h6, h7, h8, h9, h10, h11, h12, h13, h14, h15, h16, h17, h18, h19, h20, h21, h22, h23, h24, h25, h26, h27, h28, h29, h30, h31, h32, h33, h34, and_true] at hF
    refine ⟨rfl, _, rfl, ?_⟩
    simp only [d_c, h0, h1, h2, h3, h4, h5, h6, h7, h8, h9, h10, h11, h12, h13, h14, h15, h16, h17, h18, h19, h20, h21, h22, h23, h24, h25, h26, h27, h28, h29, h30, h31, h32, h33, h34]
    clear hl ht h0 h1 h2 h3 h4 h5 h6 h7 h8 h9 h10 h11 h12 h13 h14 h15 h16 h17 h18 h19 h20 h21 h22 h23 h24 h25 h26 h27 h28 h29 h30 h31 h32 h33 h34
    (repeat' split) <;> omega
  · intro hF
    simp only [s1o48, facts_cons, facts_nil, lt_t, lt_f, le_t, le_f, eq_t, eq_f, d_c, h0, h1, h2, h3, h4, h5, h6, h7, h8, h9, h10, h11, h12, h13, h14, h15, h16, h17, h18, h19, h20, h21, h22, h23, h24, h25, h26, h27, h28, h29, h30, h31, h32, h33, h34, and_true] at hF
    refine ⟨rfl, _, rfl, ?_⟩
    simp only [d_c, h0, h1, h2, h3, h4, h5, h6, h7, h8, h9, h10, h11, h12, h13, h14, h15, h16, h17, h18, h19, h20, h21, h22, h23, h24, h25, h26, h27, h28, h29, h30, h31, h32, h33, h34]
    clear hl ht h0 h1 h2 h3 h4 h5 h6 h7 h8 h9 h10 h11 h12 h13 h14 h15 h16 h17 h18 h19 h20 h21 h22 h23 h24 h25 h26 h27 h28 h29 h30 h31 h32 h33 h34
    (repeat' split) <;> omega
  · intro hF
    simp only [s1o49, facts_cons, facts_nil, lt_t, lt_f, le_t, le_f, eq_t, eq_f, d_c, h0, h1, h2, h3, h4, h5, h6, h7, h8, h9, h10, h11, h12, h13, h14, h15, h16, h17, h18, h19, h20, h21, h22, h23, h24, h25, h26, h27, h28, h29, h30, h31, h32, h33, h34, and_true] at hF
    refine ⟨rfl, _, rfl, ?_⟩
    simp only [d_c, h0, h1, h2, h3, h4, h5, h6, h7, h8, h9, h10, h11, h12, h13, h14, h15, h16, h17, h18, h19, h20, h21, h22, h23, h24, h25, h26, h27, h28, h29, h30, h31, h32, h33, h34]
    clear hl ht h0 h1 h2 h3 h4 h5 h6 h7 h8 h9 h10 h11 h12 h13 h14 h15 h16 h17 h18 h19 h20 h21 h22 h23 h24 h25 h26 h27 h28 h29 h30 h31 h32 h33 h34
    (repeat' split) <;> omega
  · intro hF
    simp only [s1o50, facts_cons, facts_nil, lt_t, lt_f, le_t, le_f, eq_t, eq_f, d_c, h0, h1, h2, h3, h4, h5, h6, h7, h8, h9, h10, h11, h12, h13, h14, h15, h16, h17, h18, h19, h20, h21, h22, h23, h24, h25, h26, h27, h28, h29, h30, h31, h32, h33, h34, and_true] at hF
    refine ⟨rfl, _, rfl, ?_⟩
    simp only [d_c, h0, h1, h2, h3, h4, h5, h6, h7, h8, h9, h10, h11, h12, h13, h14, h15, h16, h17, h18, h19, h20, h21, h22, h23, h24, h25, h26, h27, h28, h29, h30, h31, h32, h33, h34]
    clear hl ht h0 h1 h2 h3 h4 h5 h6 h7 h8 h9 h10 h11 h12 h13 h14 h15 h16 h17 h18 h19 h20 h21 h22 h23 h24 h25 h26 h27 h28 h29 h30 h31 h32 h33 h34
    (repeat' split) <;> omega
  · intro hF
    simp only [s1o51, facts_cons, facts_nil, lt_t, lt_f, le_t, le_f, eq_t, eq_f, d_c, h0, h1, h2, h3, h4, h5, h6, h7, h8, h9, h10, h11, h12, h13, h14, h15, h16, h17, h18, h19, h20, h21, h22, h23, h24, h25, h26, h27, h28, h29, h30, h31, h32, h33, h34, and_true] at hF
    refine ⟨rfl, _, rfl, ?_⟩
    simp only [d_c, h0, h1, h2, h3, h4, h5, h6, h7, h8, h9, h10, h11, h12, h13, h14, h15, h16, h17, h18, h19, h20, h21, h22, h23, h24, h25, h26, h27, h28, h29, h30, h31, h32, h33, h34]
    clear hl ht h0 h1 h2 h3 h4 h5 h6 h7 h8 h9 h10 h11 h12 h13 h14 h15 h16 h17 h18 h19 h20 h21 h22 h23 h24 h25 h26 h27 h28 h29 h30 h31 h32 h33 h34
    (repeat' split) <;> omega
  · intro hF
    simp only [s1o52, facts_cons, facts_nil, lt_t, lt_f, le_t, le_f, eq_t, eq_f, d_c, h0, h1, h2, h3, h4, h5, h6, h7, h8, h9, h10, h11, h12, h13, h14, h15, h16, h17, h18, h19, h20, h21, h22, h23, h24, h25, h26, h27, h28, h29, h30, h31, h32, h33, h34, and_true] at hF
    refine ⟨rfl, _, rfl, ?_⟩
    simp only [d_c, h0, h1, h2, h3, h4, h5, h6, h7, h8, h9, h10, h11, h12, h13, h14, h15, h16, h17, h18, h19, h20, h21, h22, h23, h24, h25, h26, h27, h28, h29, h30, h31, h32, h33, h34]
    clear hl ht h0 h1 h2 h3 h4 h5 h6 h7 h8 h9 h10 h11 h12 h13 h14 h15 h16 h17 h18 h19 h20 h21 h22 h23 h24 h25 h26 h27 h28 h29 h30 h31 h32 h33 h34
    (repeat' split) <;> omega
  · intro hF
    simp only [s1o53, facts_cons, facts_nil, lt_t, lt_f, le_t, le_f, eq_t, eq_f, d_c, h0, h1, h2, h3, h4, h5, h6, h7, h8, h9, h10, h11, h12, h13, h14, h15, h16, h17, h18, h19, h20, h21, h22, h23, h24, h25, h26, h27, h28, h29, h30, h31, h32, h33, h34, and_true] at hF
    refine ⟨rfl, _, rfl, ?_⟩
    simp only [d_c, h0, h1, h2, h3, h4, h5, h6, h7, h8, h9, h10, h11, h12, h13, h14, h15, h16, h17, h18, h19, h20, h21, h22, h23, h24, h25, h26, h27, h28, h29, h30, h31, h32, h33, h34]
    clear hl ht h0 h1 h2 h3 h4 h5 h6 h7 h8 h9 h10 h11 h12 h13 h14 h15 h16 h17 h18 h19 h20 h21 h22 h23 h24 h25 h26 h27 h28 h29 h30 h31 h32 h33 h34
    (repeat' split) <;> omega
  · intro hF
    simp only [s1o54, facts_cons, facts_nil, lt_t, lt_f, le_t, le_f, eq_t, eq_f, d_c, h0, h1, h2, h3, h4, h5, h6, h7, h8, h9, h10, h11, h12, h13, h14, h15, h16, h17, h18, h19, h20, h21, h22, h23, h24, h25, h26, h27, h28, h29, h30, h31, h32, h33, h34, and_true] at hF
    refine ⟨rfl, _, rfl, ?_⟩
    simp only [d_c, h0, h1, h2, h3, h4, h5, h6, h7, h8, h9, h10, h11, h12, h13, h14, h15, h16, h17, h18, h19, h20, h21, h22, h23, h24, h25, h26, h27, h28, h29, h30, h31, h32, h33, h34]
    clear hl ht h0 h1 h2 h3 h4 h5 h6 h7 h8 h9 h10 h11 h12 h13 h14 h15 h16 h17 h18 h19 h20 h21 h22 h23 h24 h25 h26 h27 h28 h29 h30 h31 h32 h33 h34
    (repeat' split) <;> omega
  · intro hF
    simp only [s1o55, facts_cons, facts_nil, lt_t, lt_f, le_t, le_f, eq_t, eq_f, d_c, h0, h1, h2, h3, h4, h5, h6, h7, h8, h9, h10, h11, h12, h13, h14, h15, h16, h17, h18, h19, h20, h21, h22, h23, h24, h25, h26, h27, h28, h29, h30, h31, h32, h33, h34, and_true] at hF
    refine ⟨rfl, _, rfl, ?_⟩
    simp only [d_c, h0, h1, h2, h3, h4, h5, h6, h7, h8, h9, h10, h11, h12, h13, h14, h15, h16, h17, h18, h19, h20, h21, h22, h23, h24, h25, h26, h27, h28, h29, h30, h31, h32, h33, h34]
    clear hl ht h0 h1 h2 h3 h4 h5 h6 h7 h8 h9 h10 h11 h12 h13 h14 h15 h16 h17 h18 h19 h20 h21 h22 h23 h24 h25 h26 h27 h28 h29 h30 h31 h32 h33 h34
    (repeat' split) <;> omega
  · intro hF
    simp only [s1o56, facts_cons, facts_nil, lt_t, lt_f, le_t, le_f, eq_t, eq_f, d_c, h0, h1, h2, h3, h4, h5, h6, h7, h8, h9, h10, h11, h12, h13, h14, h15, h16, h17, h18, h19, h20, h21, h22, h23, h24, h25, h26, h27, h28, h29, h30, h31, h32, h33, h34, and_true] at hF
    refine ⟨rfl, _, rfl, ?_⟩
    simp only [d_c, h0, h1, h2, h3, h4, h5, h6, h7, h8, h9, h10, h11, h12, h13, h14, h15, h16, h17, h18, h19, h20, h21, h22, h23, h24, h25, h26, h27, h28, h29, h30, h31, h32, h33, h34]
    clear hl ht h0 h1 h2 h3 h4 h5 h6 h7 h8 h9 h10 h11 h12 h13 h14 h15 h16 h17 h18 h19 h20 h21 h22 h23 h24 h25 h26 h27 h28 h29 h30 h31 h32 h33 h34
    (repeat' split) <;> omega
  · intro hF
    simp only [s1o57, facts_cons, facts_nil, lt_t, lt_f, le_t, le_f, eq_t, eq_f, d_c, h0, h1, h2, h3, h4, h5, h6, h7, h8, h9, h10, h11, h12, h13, h14, h15, h16, h17, h18, h19, h20, h21, h22, h23, h24, h25, h26, h27, h28, h29, h30, h31, h32, h33, h34, and_true] at hF
    refine ⟨rfl, _, rfl, ?_⟩
    simp only [d_c, h0, h1, h2, h3, h4, h5, h6, h7, h8, h9, h10, h11, h12, h13, h14, h15, h16, h17, h18, h19, h20, h21, h22, h23, h24, h25, h26, h27, h28, h29, h30, h31, h32, h33, h34]
    clear hl ht h0 h1 h2 h3 h4 h5 h6 h7 h8 h9 h10 h11 h12 h13 h14 h15 h16 h17 h18 h19 h20 h21 h22 h23 h24 h25 h26 h27 h28 h29 h30 h31 h32 h33 h34
    (repeat' split) <;> omega
  · intro hF
    simp only [s1o58, facts_cons, facts_nil, lt_t, lt_f, le_t, le_f, eq_t, eq_f, d_c, h0, h1, h2, h3, h4, h5, h6, h7, h8, h9, h10, h11, h12, h13, h14, h15, h16, h17, h18, h19, h20, h21, h22, h23, h24, h25, h26, h27, h28, h29, h30, h31, h32, h33, h34, and_true] at hF
    refine ⟨rfl, _, rfl, ?_⟩
    simp only [d_c, h0, h1, h2, h3, h4, h5, h6, h7, h8, h9, h10, h11, h12, h13, h14, h15, h16, h17, h18, h19, h20, h21, h22, h23, h24, h25, h26, h27, h28, h29, h30, h31, h32, h33, h34]
    clear hl ht h0 h1 h2 h3 h4 h5 h6 h7 h8 h9 h10 h11 h12 h13 h14 h15 h16 h17 h18 h19 h20 h21 h22 h23 h24 h25 h26 h27 h28 h29 h30 h31 h32 h33 h34
    (repeat' split) <;> omega
  · intro hF
    simp only [s1o59, facts_cons, facts_nil, lt_t, lt_f, le_t, le_f, eq_t, eq_f, d_c, h0, h1, h2, h3, h4, h5, h6, h7, h8, h9, h10, h11, h12, h13, h14, h15, h16, h17, h18, h19, h20, h21, h22, h23, h24, h25, h26, h27, h28, h29, h30, h31, h32, h33, h34, and_true] at hF
    refine ⟨rfl, _, rfl, ?_⟩
    simp only [d_c, h0, h1, h2, h3, h4, h5, h6, h7, h8, h9, h10, h11, h12, h13, h14, h15, h16, h17, h18, h19, h20, h21, h22, h23, h24, h25, h26, h27, h28, h29, h30, h31, h32, h33, h34]
    clear hl ht h0 h1 h2 h3 h4 h5 h6 h7 h8 h9 h10 h11 h12 h13 h14 h15 h16 h17 h18 h19 h20 h21 h22 h23 h24 h25 h26 h27 h28 h29 h30 h31 h32 h33 h34
    (repeat' split) <;> omega
end Go.Proofs.Ytlkobjghpkifmaa
