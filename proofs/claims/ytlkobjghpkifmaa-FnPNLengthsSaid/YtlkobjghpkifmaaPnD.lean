/- The ways of the package's decoding come to the number. -/
import Derived.Test.YtlkobjghpkifmaaPnC
set_option linter.unusedVariables false
set_option linter.unusedSimpArgs false
namespace Go.Proofs.Ytlkobjghpkifmaa
open Go Go.Sx Go.RowKit
set_option maxHeartbeats 4000000

theorem d1_ways (E : Env) (l t : Int) (hl : E.i 1 = l) (ht : E.i 2 = t) (l0 : -1 ≤ l) (l1 : l < 4611686018427387903) (t0 : 0 ≤ t) (t1 : t < 256) :
    ∀ o ∈ d1outs, Facts E o.facts → o.dead = false ∧ ∃ x : SE, o.res = .int .i64 x ∧ x.den E = pnM 256 l t := by
  obtain ⟨q, r, he, r0, r1⟩ : ∃ q r : Int, l + 1 = q * 256 + r ∧ 0 ≤ r ∧ r < 256 := ⟨(l + 1) / 256, (l + 1) % 256, by omega, by omega, by omega⟩
  have hpn : pnM 256 l t = if q * 256 + t ≤ l + 1 - 128 ∧ q * 256 + t < 4611686018427387904 - 256 then q * 256 + t + 256 else if l + 1 + 128 < q * 256 + t ∧ 256 ≤ q * 256 + t then q * 256 + t - 256 else q * 256 + t := by
    unfold pnM
    have e1 : (l + 1) - (l + 1) % 256 + t = q * 256 + t := by omega
    have e2 : (256 : Int) / 2 = 128 := by decide
    simp only [e1, e2]
  have h0 : d1e0.den E = (l + (1)) := by
    show E.i 1 + (1 : Int) = _
    rw [hl]
  have h1 : d1e1.den E = (l + (1)) := by
    show IntKind.i64.wrap (d1e0.den E) = _
    rw [h0]; exact w64 (by omega)
  have h2 : d1e2.den E = (q * 256) := by
    show Go.bits .and .i64 (d1e1.den E) (-256) = _
    rw [h1, and_high 8 (by omega) _ 256 (by decide) (by omega) (by omega)]; omega
  have h3 : d1e3.den E = (q * 256 + t) := by
    show Go.bits .or .i64 (d1e2.den E) (E.i 2) = _
    rw [h2, ht, or_low 8 (by omega) _ t 256 (by decide) (by omega) (by omega) (by omega) (by omega) (by omega) (by omega)]
  have h4 : d1e4.den E = ((l + (1)) - (128)) := by
    show d1e1.den E - (128 : Int) = _
    rw [h1]
  have h5 : d1e5.den E = ((l + (1)) - (128)) := by
    show IntKind.i64.wrap (d1e4.den E) = _
    rw [h4]; exact w64 (by omega)
  have h6 : d1e6.den E = ((q * 256 + t) + (256)) := by
    show d1e3.den E + (256 : Int) = _
    rw [h3]
  have h7 : d1e7.den E = ((q * 256 + t) + (256)) := by
    show IntKind.i64.wrap (d1e6.den E) = _
    rw [h6]; exact w64 (by omega)
  have h8 : d1e8.den E = ((l + (1)) + (128)) := by
    show d1e1.den E + (128 : Int) = _
    rw [h1]
  have h9 : d1e9.den E = ((l + (1)) + (128)) := by
    show IntKind.i64.wrap (d1e8.den E) = _
    rw [h8]; exact w64 (by omega)
  have h10 : d1e10.den E = ((q * 256 + t) - (256)) := by
    show d1e3.den E - (256 : Int) = _
    rw [h3]
  have h11 : d1e11.den E = ((q * 256 + t) - (256)) := by
    show IntKind.i64.wrap (d1e10.den E) = _
    rw [h10]; exact w64 (by omega)
  rw [hpn]
  clear hpn
  intro o ho
  simp only [d1outs, List.mem_cons, List.not_mem_nil, or_false] at ho
  rcases ho with rfl | rfl | rfl | rfl | rfl | rfl | rfl
  · intro hF
    simp only [d1o0, facts_cons, facts_nil, lt_t, lt_f, le_t, le_f, eq_t, eq_f, d_c, h0, h1, h2, h3, h4, h5, h6, h7, h8, h9, h10, h11, and_true] at hF
    refine ⟨rfl, _, rfl, ?_⟩
    simp only [d_c, h0, h1, h2, h3, h4, h5, h6, h7, h8, h9, h10, h11]
    (repeat' split) <;> omega
  · intro hF
    simp only [d1o1, facts_cons, facts_nil, lt_t, lt_f, le_t, le_f, eq_t, eq_f, d_c, h0, h1, h2, h3, h4, h5, h6, h7, h8, h9, h10, h11, and_true] at hF
    refine ⟨rfl, _, rfl, ?_⟩
    simp only [d_c, h0, h1, h2, h3, h4, h5, h6, h7, h8, h9, h10, h11]
    (repeat' split) <;> omega
  · intro hF
    simp only [d1o2, facts_cons, facts_nil, lt_t, lt_f, le_t, le_f, eq_t, eq_f, d_c, h0, h1, h2, h3, h4, h5, h6, h7, h8, h9, h10, h11, and_true] at hF
    refine ⟨rfl, _, rfl, ?_⟩
    simp only [d_c, h0, h1, h2, h3, h4, h5, h6, h7, h8, h9, h10, h11]
    (repeat' split) <;> omega
  · intro hF
    simp only [d1o3, facts_cons, facts_nil, lt_t, lt_f, le_t, le_f, eq_t, eq_f, d_c, h0, h1, h2, h3, h4, h5, h6, h7, h8, h9, h10, h11, and_true] at hF
    refine ⟨rfl, _, rfl, ?_⟩
    simp only [d_c, h0, h1, h2, h3, h4, h5, h6, h7, h8, h9, h10, h11]
    (repeat' split) <;> omega
  · intro hF
    simp only [d1o4, facts_cons, facts_nil, lt_t, lt_f, le_t, le_f, eq_t, eq_f, d_c, h0, h1, h2, h3, h4, h5, h6, h7, h8, h9, h10, h11, and_true] at hF
    refine ⟨rfl, _, rfl, ?_⟩
    simp only [d_c, h0, h1, h2, h3, h4, h5, h6, h7, h8, h9, h10, h11]
    (repeat' split) <;> omega
  · intro hF
    simp only [d1o5, facts_cons, facts_nil, lt_t, lt_f, le_t, le_f, eq_t, eq_f, d_c, h0, h1, h2, h3, h4, h5, h6, h7, h8, h9, h10, h11, and_true] at hF
    refine ⟨rfl, _, rfl, ?_⟩
    simp only [d_c, h0, h1, h2, h3, h4, h5, h6, h7, h8, h9, h10, h11]
    (repeat' split) <;> omega
  · intro hF
    simp only [d1o6, facts_cons, facts_nil, lt_t, lt_f, le_t, le_f, eq_t, eq_f, d_c, h0, h1, h2, h3, h4, h5, h6, h7, h8, h9, h10, h11, and_true] at hF
    refine ⟨rfl, _, rfl, ?_⟩
    simp only [d_c, h0, h1, h2, h3, h4, h5, h6, h7, h8, h9, h10, h11]
    (repeat' split) <;> omega

theorem d2_ways (E : Env) (l t : Int) (hl : E.i 1 = l) (ht : E.i 2 = t) (l0 : -1 ≤ l) (l1 : l < 4611686018427387903) (t0 : 0 ≤ t) (t1 : t < 65536) :
    ∀ o ∈ d2outs, Facts E o.facts → o.dead = false ∧ ∃ x : SE, o.res = .int .i64 x ∧ x.den E = pnM 65536 l t := by
  obtain ⟨q, r, he, r0, r1⟩ : ∃ q r : Int, l + 1 = q * 65536 + r ∧ 0 ≤ r ∧ r < 65536 := ⟨(l + 1) / 65536, (l + 1) % 65536, by omega, by omega, by omega⟩
  have hpn : pnM 65536 l t = if q * 65536 + t ≤ l + 1 - 32768 ∧ q * 65536 + t < 4611686018427387904 - 65536 then q * 65536 + t + 65536 else if l + 1 + 32768 < q * 65536 + t ∧ 65536 ≤ q * 65536 + t then q * 65536 + t - 65536 else q * 65536 + t := by
    unfold pnM
    have e1 : (l + 1) - (l + 1) % 65536 + t = q * 65536 + t := by omega
    have e2 : (65536 : Int) / 2 = 32768 := by decide
    simp only [e1, e2]
  have h0 : d2e0.den E = (l + (1)) := by
    show E.i 1 + (1 : Int) = _
    rw [hl]
  have h1 : d2e1.den E = (l + (1)) := by
    show IntKind.i64.wrap (d2e0.den E) = _
    rw [h0]; exact w64 (by omega)
  have h2 : d2e2.den E = (q * 65536) := by
    show Go.bits .and .i64 (d2e1.den E) (-65536) = _
    rw [h1, and_high 16 (by omega) _ 65536 (by decide) (by omega) (by omega)]; omega
  have h3 : d2e3.den E = (q * 65536 + t) := by
    show Go.bits .or .i64 (d2e2.den E) (E.i 2) = _
    rw [h2, ht, or_low 16 (by omega) _ t 65536 (by decide) (by omega) (by omega) (by omega) (by omega) (by omega) (by omega)]
  have h4 : d2e4.den E = ((l + (1)) - (32768)) := by
    show d2e1.den E - (32768 : Int) = _
    rw [h1]
  have h5 : d2e5.den E = ((l + (1)) - (32768)) := by
    show IntKind.i64.wrap (d2e4.den E) = _
    rw [h4]; exact w64 (by omega)
  have h6 : d2e6.den E = ((q * 65536 + t) + (65536)) := by
    show d2e3.den E + (65536 : Int) = _
    rw [h3]
  have h7 : d2e7.den E = ((q * 65536 + t) + (65536)) := by
    show IntKind.i64.wrap (d2e6.den E) = _
    rw [h6]; exact w64 (by omega)
  have h8 : d2e8.den E = ((l + (1)) + (32768)) := by
    show d2e1.den E + (32768 : Int) = _
    rw [h1]
  have h9 : d2e9.den E = ((l + (1)) + (32768)) := by
    show IntKind.i64.wrap (d2e8.den E) = _
    rw [h8]; exact w64 (by omega)
  have h10 : d2e10.den E = ((q * 65536 + t) - (65536)) := by
    show d2e3.den E - (65536 : Int) = _
    rw [h3]
  have h11 : d2e11.den E = ((q * 65536 + t) - (65536)) := by
    show IntKind.i64.wrap (d2e10.den E) = _
    rw [h10]; exact w64 (by omega)
  rw [hpn]
  clear hpn
  intro o ho
  simp only [d2outs, List.mem_cons, List.not_mem_nil, or_false] at ho
  rcases ho with rfl | rfl | rfl | rfl | rfl | rfl | rfl
  · intro hF
    simp only [d2o0, facts_cons, facts_nil, lt_t, lt_f, le_t, le_f, eq_t, eq_f, d_c, h0, h1, h2, h3, h4, h5, h6, h7, h8, h9, h10, h11, and_true] at hF
    refine ⟨rfl, _, rfl, ?_⟩
    simp only [d_c, h0, h1, h2, h3, h4, h5, h6, h7, h8, h9, h10, h11]
    (repeat' split) <;> omega
  · intro hF
    simp only [d2o1, facts_cons, facts_nil, lt_t, lt_f, le_t, le_f, eq_t, eq_f, d_c, h0, h1, h2, h3, h4, h5, h6, h7, h8, h9, h10, h11, and_true] at hF
    refine ⟨rfl, _, rfl, ?_⟩
    simp only [d_c, h0, h1, h2, h3, h4, h5, h6, h7, h8, h9, h10, h11]
    (repeat' split) <;> omega
  · intro hF
    simp only [d2o2, facts_cons, facts_nil, lt_t, lt_f, le_t, le_f, eq_t, eq_f, d_c, h0, h1, h2, h3, h4, h5, h6, h7, h8, h9, h10, h11, and_true] at hF
    refine ⟨rfl, _, rfl, ?_⟩
    simp only [d_c, h0, h1, h2, h3, h4, h5, h6, h7, h8, h9, h10, h11]
    (repeat' split) <;> omega
  · intro hF
    simp only [d2o3, facts_cons, facts_nil, lt_t, lt_f, le_t, le_f, eq_t, eq_f, d_c, h0, h1, h2, h3, h4, h5, h6, h7, h8, h9, h10, h11, and_true] at hF
    refine ⟨rfl, _, rfl, ?_⟩
    simp only [d_c, h0, h1, h2, h3, h4, h5, h6, h7, h8, h9, h10, h11]
    (repeat' split) <;> omega
  · intro hF
    simp only [d2o4, facts_cons, facts_nil, lt_t, lt_f, le_t, le_f, eq_t, eq_f, d_c, h0, h1, h2, h3, h4, h5, h6, h7, h8, h9, h10, h11, and_true] at hF
    refine ⟨rfl, _, rfl, ?_⟩
    simp only [d_c, h0, h1, h2, h3, h4, h5, h6, h7, h8, h9, h10, h11]
    (repeat' split) <;> omega
  · intro hF
    simp only [d2o5, facts_cons, facts_nil, lt_t, lt_f, le_t, le_f, eq_t, eq_f, d_c, h0, h1, h2, h3, h4, h5, h6, h7, h8, h9, h10, h11, and_true] at hF
    refine ⟨rfl, _, rfl, ?_⟩
    simp only [d_c, h0, h1, h2, h3, h4, h5, h6, h7, h8, h9, h10, h11]
    (repeat' split) <;> omega
  · intro hF
    simp only [d2o6, facts_cons, facts_nil, lt_t, lt_f, le_t, le_f, eq_t, eq_f, d_c, h0, h1, h2, h3, h4, h5, h6, h7, h8, h9, h10, h11, and_true] at hF
    refine ⟨rfl, _, rfl, ?_⟩
    simp only [d_c, h0, h1, h2, h3, h4, h5, h6, h7, h8, h9, h10, h11]
    (repeat' split) <;> omega

theorem d3_ways (E : Env) (l t : Int) (hl : E.i 1 = l) (ht : E.i 2 = t) (l0 : -1 ≤ l) (l1 : l < 4611686018427387903) (t0 : 0 ≤ t) (t1 : t < 16777216) :
    ∀ o ∈ d3outs, Facts E o.facts → o.dead = false ∧ ∃ x : SE, o.res = .int .i64 x ∧ x.den E = pnM 16777216 l t := by
  obtain ⟨q, r, he, r0, r1⟩ : ∃ q r : Int, l + 1 = q * 16777216 + r ∧ 0 ≤ r ∧ r < 16777216 := ⟨(l + 1) / 16777216, (l + 1) % 16777216, by omega, by omega, by omega⟩
  have hpn : pnM 16777216 l t = if q * 16777216 + t ≤ l + 1 - 8388608 ∧ q * 16777216 + t < 4611686018427387904 - 16777216 then q * 16777216 + t + 16777216 else if l + 1 + 8388608 < q * 16777216 + t ∧ 16777216 ≤ q * 16777216 + t then q * 16777216 + t - 16777216 else q * 16777216 + t := by
    unfold pnM
    have e1 : (l + 1) - (l + 1) % 16777216 + t = q * 16777216 + t := by omega
    have e2 : (16777216 : Int) / 2 = 8388608 := by decide
    simp only [e1, e2]
  have h0 : d3e0.den E = (l + (1)) := by
    show E.i 1 + (1 : Int) = _
    rw [hl]
  have h1 : d3e1.den E = (l + (1)) := by
    show IntKind.i64.wrap (d3e0.den E) = _
    rw [h0]; exact w64 (by omega)
  have h2 : d3e2.den E = (q * 16777216) := by
    show Go.bits .and .i64 (d3e1.den E) (-16777216) = _
    rw [h1, and_high 24 (by omega) _ 16777216 (by decide) (by omega) (by omega)]; omega
  have h3 : d3e3.den E = (q * 16777216 + t) := by
    show Go.bits .or .i64 (d3e2.den E) (E.i 2) = _
    rw [h2, ht, or_low 24 (by omega) _ t 16777216 (by decide) (by omega) (by omega) (by omega) (by omega) (by omega) (by omega)]
  have h4 : d3e4.den E = ((l + (1)) - (8388608)) := by
    show d3e1.den E - (8388608 : Int) = _
    rw [h1]
  have h5 : d3e5.den E = ((l + (1)) - (8388608)) := by
    show IntKind.i64.wrap (d3e4.den E) = _
    rw [h4]; exact w64 (by omega)
  have h6 : d3e6.den E = ((q * 16777216 + t) + (16777216)) := by
    show d3e3.den E + (16777216 : Int) = _
    rw [h3]
  have h7 : d3e7.den E = ((q * 16777216 + t) + (16777216)) := by
    show IntKind.i64.wrap (d3e6.den E) = _
    rw [h6]; exact w64 (by omega)
  have h8 : d3e8.den E = ((l + (1)) + (8388608)) := by
    show d3e1.den E + (8388608 : Int) = _
    rw [h1]
  have h9 : d3e9.den E = ((l + (1)) + (8388608)) := by
    show IntKind.i64.wrap (d3e8.den E) = _
    rw [h8]; exact w64 (by omega)
  have h10 : d3e10.den E = ((q * 16777216 + t) - (16777216)) := by
    show d3e3.den E - (16777216 : Int) = _
    rw [h3]
  have h11 : d3e11.den E = ((q * 16777216 + t) - (16777216)) := by
    show IntKind.i64.wrap (d3e10.den E) = _
    rw [h10]; exact w64 (by omega)
  rw [hpn]
  clear hpn
  intro o ho
  simp only [d3outs, List.mem_cons, List.not_mem_nil, or_false] at ho
  rcases ho with rfl | rfl | rfl | rfl | rfl | rfl | rfl
  · intro hF
    simp only [d3o0, facts_cons, facts_nil, lt_t, lt_f, le_t, le_f, eq_t, eq_f, d_c, h0, h1, h2, h3, h4, h5, h6, h7, h8, h9, h10, h11, and_true] at hF
    refine ⟨rfl, _, rfl, ?_⟩
    simp only [d_c, h0, h1, h2, h3, h4, h5, h6, h7, h8, h9, h10, h11]
    (repeat' split) <;> omega
  · intro hF
    simp only [d3o1, facts_cons, facts_nil, lt_t, lt_f, le_t, le_f, eq_t, eq_f, d_c, h0, h1, h2, h3, h4, h5, h6, h7, h8, h9, h10, h11, and_true] at hF
    refine ⟨rfl, _, rfl, ?_⟩
    simp only [d_c, h0, h1, h2, h3, h4, h5, h6, h7, h8, h9, h10, h11]
    (repeat' split) <;> omega
  · intro hF
    simp only [d3o2, facts_cons, facts_nil, lt_t, lt_f, le_t, le_f, eq_t, eq_f, d_c, h0, h1, h2, h3, h4, h5, h6, h7, h8, h9, h10, h11, and_true] at hF
    refine ⟨rfl, _, rfl, ?_⟩
    simp only [d_c, h0, h1, h2, h3, h4, h5, h6, h7, h8, h9, h10, h11]
    (repeat' split) <;> omega
  · intro hF
    simp only [d3o3, facts_cons, facts_nil, lt_t, lt_f, le_t, le_f, eq_t, eq_f, d_c, h0, h1, h2, h3, h4, h5, h6, h7, h8, h9, h10, h11, and_true] at hF
    refine ⟨rfl, _, rfl, ?_⟩
    simp only [d_c, h0, h1, h2, h3, h4, h5, h6, h7, h8, h9, h10, h11]
    (repeat' split) <;> omega
  · intro hF
    simp only [d3o4, facts_cons, facts_nil, lt_t, lt_f, le_t, le_f, eq_t, eq_f, d_c, h0, h1, h2, h3, h4, h5, h6, h7, h8, h9, h10, h11, and_true] at hF
    refine ⟨rfl, _, rfl, ?_⟩
    simp only [d_c, h0, h1, h2, h3, h4, h5, h6, h7, h8, h9, h10, h11]
    (repeat' split) <;> omega
  · intro hF
    simp only [d3o5, facts_cons, facts_nil, lt_t, lt_f, le_t, le_f, eq_t, eq_f, d_c, h0, h1, h2, h3, h4, h5, h6, h7, h8, h9, h10, h11, and_true] at hF
    refine ⟨rfl, _, rfl, ?_⟩
    simp only [d_c, h0, h1, h2, h3, h4, h5, h6, h7, h8, h9, h10, h11]
    (repeat' split) <;> omega
  · intro hF
    simp only [d3o6, facts_cons, facts_nil, lt_t, lt_f, le_t, le_f, eq_t, eq_f, d_c, h0, h1, h2, h3, h4, h5, h6, h7, h8, h9, h10, h11, and_true] at hF
    refine ⟨rfl, _, rfl, ?_⟩
    simp only [d_c, h0, h1, h2, h3, h4, h5, h6, h7, h8, h9, h10, h11]
    (repeat' split) <;> omega

theorem d4_ways (E : Env) (l t : Int) (hl : E.i 1 = l) (ht : E.i 2 = t) (l0 : -1 ≤ l) (l1 : l < 4611686018427387903) (t0 : 0 ≤ t) (t1 : t < 4294967296) :
    ∀ o ∈ d4outs, Facts E o.facts → o.dead = false ∧ ∃ x : SE, o.res = .int .i64 x ∧ x.den E = pnM 4294967296 l t := by
  obtain ⟨q, r, he, r0, r1⟩ : ∃ q r : Int, l + 1 = q * 4294967296 + r ∧ 0 ≤ r ∧ r < 4294967296 := ⟨(l + 1) / 4294967296, (l + 1) % 4294967296, by omega, by omega, by omega⟩
  have hpn : pnM 4294967296 l t = if q * 4294967296 + t ≤ l + 1 - 2147483648 ∧ q * 4294967296 + t < 4611686018427387904 - 4294967296 then q * 4294967296 + t + 4294967296 else if l + 1 + 2147483648 < q * 4294967296 + t ∧ 4294967296 ≤ q * 4294967296 + t then q * 4294967296 + t - 4294967296 else q * 4294967296 + t := by
    unfold pnM
    have e1 : (l + 1) - (l + 1) % 4294967296 + t = q * 4294967296 + t := by omega
    have e2 : (4294967296 : Int) / 2 = 2147483648 := by decide
    simp only [e1, e2]
  have h0 : d4e0.den E = (l + (1)) := by
    show E.i 1 + (1 : Int) = _
    rw [hl]
  have h1 : d4e1.den E = (l + (1)) := by
    show IntKind.i64.wrap (d4e0.den E) = _
    rw [h0]; exact w64 (by omega)
  have h2 : d4e2.den E = (q * 4294967296) := by
    show Go.bits .and .i64 (d4e1.den E) (-4294967296) = _
    rw [h1, and_high 32 (by omega) _ 4294967296 (by decide) (by omega) (by omega)]; omega
  have h3 : d4e3.den E = (q * 4294967296 + t) := by
    show Go.bits .or .i64 (d4e2.den E) (E.i 2) = _
    rw [h2, ht, or_low 32 (by omega) _ t 4294967296 (by decide) (by omega) (by omega) (by omega) (by omega) (by omega) (by omega)]
  have h4 : d4e4.den E = ((l + (1)) - (2147483648)) := by
    show d4e1.den E - (2147483648 : Int) = _
    rw [h1]
  have h5 : d4e5.den E = ((l + (1)) - (2147483648)) := by
    show IntKind.i64.wrap (d4e4.den E) = _
    rw [h4]; exact w64 (by omega)
  have h6 : d4e6.den E = ((q * 4294967296 + t) + (4294967296)) := by
    show d4e3.den E + (4294967296 : Int) = _
    rw [h3]
  have h7 : d4e7.den E = ((q * 4294967296 + t) + (4294967296)) := by
    show IntKind.i64.wrap (d4e6.den E) = _
    rw [h6]; exact w64 (by omega)
  have h8 : d4e8.den E = ((l + (1)) + (2147483648)) := by
    show d4e1.den E + (2147483648 : Int) = _
    rw [h1]
  have h9 : d4e9.den E = ((l + (1)) + (2147483648)) := by
    show IntKind.i64.wrap (d4e8.den E) = _
    rw [h8]; exact w64 (by omega)
  have h10 : d4e10.den E = ((q * 4294967296 + t) - (4294967296)) := by
    show d4e3.den E - (4294967296 : Int) = _
    rw [h3]
  have h11 : d4e11.den E = ((q * 4294967296 + t) - (4294967296)) := by
    show IntKind.i64.wrap (d4e10.den E) = _
    rw [h10]; exact w64 (by omega)
  rw [hpn]
  clear hpn
  intro o ho
  simp only [d4outs, List.mem_cons, List.not_mem_nil, or_false] at ho
  rcases ho with rfl | rfl | rfl | rfl | rfl | rfl | rfl
  · intro hF
    simp only [d4o0, facts_cons, facts_nil, lt_t, lt_f, le_t, le_f, eq_t, eq_f, d_c, h0, h1, h2, h3, h4, h5, h6, h7, h8, h9, h10, h11, and_true] at hF
    refine ⟨rfl, _, rfl, ?_⟩
    simp only [d_c, h0, h1, h2, h3, h4, h5, h6, h7, h8, h9, h10, h11]
    (repeat' split) <;> omega
  · intro hF
    simp only [d4o1, facts_cons, facts_nil, lt_t, lt_f, le_t, le_f, eq_t, eq_f, d_c, h0, h1, h2, h3, h4, h5, h6, h7, h8, h9, h10, h11, and_true] at hF
    refine ⟨rfl, _, rfl, ?_⟩
    simp only [d_c, h0, h1, h2, h3, h4, h5, h6, h7, h8, h9, h10, h11]
    (repeat' split) <;> omega
  · intro hF
    simp only [d4o2, facts_cons, facts_nil, lt_t, lt_f, le_t, le_f, eq_t, eq_f, d_c, h0, h1, h2, h3, h4, h5, h6, h7, h8, h9, h10, h11, and_true] at hF
    refine ⟨rfl, _, rfl, ?_⟩
    simp only [d_c, h0, h1, h2, h3, h4, h5, h6, h7, h8, h9, h10, h11]
    (repeat' split) <;> omega
  · intro hF
    simp only [d4o3, facts_cons, facts_nil, lt_t, lt_f, le_t, le_f, eq_t, eq_f, d_c, h0, h1, h2, h3, h4, h5, h6, h7, h8, h9, h10, h11, and_true] at hF
    refine ⟨rfl, _, rfl, ?_⟩
    simp only [d_c, h0, h1, h2, h3, h4, h5, h6, h7, h8, h9, h10, h11]
    (repeat' split) <;> omega
  · intro hF
    simp only [d4o4, facts_cons, facts_nil, lt_t, lt_f, le_t, le_f, eq_t, eq_f, d_c, h0, h1, h2, h3, h4, h5, h6, h7, h8, h9, h10, h11, and_true] at hF
    refine ⟨rfl, _, rfl, ?_⟩
    simp only [d_c, h0, h1, h2, h3, h4, h5, h6, h7, h8, h9, h10, h11]
    (repeat' split) <;> omega
  · intro hF
    simp only [d4o5, facts_cons, facts_nil, lt_t, lt_f, le_t, le_f, eq_t, eq_f, d_c, h0, h1, h2, h3, h4, h5, h6, h7, h8, h9, h10, h11, and_true] at hF
    refine ⟨rfl, _, rfl, ?_⟩
    simp only [d_c, h0, h1, h2, h3, h4, h5, h6, h7, h8, h9, h10, h11]
    (repeat' split) <;> omega
  · intro hF
    simp only [d4o6, facts_cons, facts_nil, lt_t, lt_f, le_t, le_f, eq_t, eq_f, d_c, h0, h1, h2, h3, h4, h5, h6, h7, h8, h9, h10, h11, and_true] at hF
    refine ⟨rfl, _, rfl, ?_⟩
    simp only [d_c, h0, h1, h2, h3, h4, h5, h6, h7, h8, h9, h10, h11]
    (repeat' split) <;> omega
end Go.Proofs.Ytlkobjghpkifmaa
