/- The law of lengths: as many bytes as a header has are enough. -/
import Derived.Test.YtlkobjghpkifmaaPnF
set_option linter.unusedVariables false
set_option linter.unusedSimpArgs false
namespace Go.Proofs.Ytlkobjghpkifmaa
open Go Go.Sx Go.RowKit

theorem pnM_back2 (top far g : Int) (h0 : -1 ≤ top) (h1 : top < 4611686014132420608) (f0 : 1 ≤ far) (f1 : far < 32768) (g0 : 0 ≤ g) (g1 : g < far) :
    pnM 65536 (top + g) ((top + far) % 65536) = top + far := by
  unfold pnM
  dsimp only
  (repeat' split) <;> omega
theorem pnM_back3 (top far g : Int) (h0 : -1 ≤ top) (h1 : top < 4611686014132420608) (f0 : 1 ≤ far) (f1 : far < 8388608) (g0 : 0 ≤ g) (g1 : g < far) :
    pnM 16777216 (top + g) ((top + far) % 16777216) = top + far := by
  unfold pnM
  dsimp only
  (repeat' split) <;> omega
theorem pnM_back4 (top far g : Int) (h0 : -1 ≤ top) (h1 : top < 4611686014132420608) (f0 : 1 ≤ far) (f1 : far < 2147483648) (g0 : 0 ≤ g) (g1 : g < far) :
    pnM 4294967296 (top + g) ((top + far) % 4294967296) = top + far := by
  unfold pnM
  dsimp only
  (repeat' split) <;> omega
theorem pnLen_far (top far : Int) (h0 : -1 ≤ top) (h1 : top < 4611686014132420608) (f0 : 1 ≤ far) (f1 : far < 2147483648) :
    pnLen (top + far) top = if far < 32768 then 2 else if far < 8388608 then 3 else 4 := by
  unfold pnLen
  dsimp only
  have : (if top = -1 then IntKind.i64.wrap (top + far + 1) else IntKind.i64.wrap (top + far - top)) = far := by
    split
    · rename_i h; rw [h, w64 (by omega)]; omega
    · rw [w64 (by omega)]; omega
  rw [this]
/-- One length: its number of bytes, the mask, and the number that comes back. -/
theorem one_len (top far g : Int) (h0 : -1 ≤ top) (h1 : top < 4611686014132420608) (f0 : 1 ≤ far) (f1 : far < 2147483648) (g0 : 0 ≤ g) (g1 : g < far) :
    ∃ L M : Int, pnLen (top + far) top = L ∧ 2 ≤ L ∧ L ≤ 4 ∧ 0 < M ∧ IntKind.i64.wrap (1 * 2 ^ min (8 * L).toNat 64) = M ∧
      Go.bits .and .i64 (top + far) (IntKind.i64.wrap (M - 1)) = (top + far) % M ∧ pn L (top + g) ((top + far) % M) = top + far := by
  rw [pnLen_far top far h0 h1 f0 f1]
  by_cases a1 : far < 32768
  · refine ⟨2, 65536, by simp [a1], by decide, by decide, by decide, by decide, and_low 16 (by omega) _ 65535 (by decide) (by omega) (by omega), ?_⟩
    exact pnM_back2 top far g h0 h1 f0 a1 g0 g1
  · by_cases a2 : far < 8388608
    · refine ⟨3, 16777216, by simp [a1, a2], by decide, by decide, by decide, by decide, and_low 24 (by omega) _ 16777215 (by decide) (by omega) (by omega), ?_⟩
      exact pnM_back3 top far g h0 h1 f0 a2 g0 g1
    · refine ⟨4, 4294967296, by simp [a1, a2], by decide, by decide, by decide, by decide, and_low 32 (by omega) _ 4294967295 (by decide) (by omega) (by omega), ?_⟩
      exact pnM_back4 top far g h0 h1 f0 f1 g0 g1
theorem y_ways (a b c : Int) (z : Bool) (a0 : 0 ≤ a) (a1 : a < 18446744073709551616) (b0 : 0 ≤ b) (b1 : b < 4294967296) (c0 : 0 ≤ c) (c1 : c < 4294967296) :
    ∀ o ∈ youts, Facts (envL [a, b, c] [z]) o.facts → o.dead = false ∧ ∃ x : SB, o.res = .bool x ∧ x.den (envL [a, b, c] [z]) = true := by
  obtain ⟨E, hE⟩ : ∃ E, E = envL [a, b, c] [z] := ⟨_, rfl⟩
  rw [← hE]
  have i0 : E.i 0 = a := by rw [hE]; rfl
  have i1 : E.i 1 = b := by rw [hE]; rfl
  have i2 : E.i 2 = c := by rw [hE]; rfl
  obtain ⟨r, hr⟩ : ∃ r, r = b % 2147483647 := ⟨_, rfl⟩
  obtain ⟨far, hfar⟩ : ∃ far, far = 1 + r := ⟨_, rfl⟩
  obtain ⟨g, hg⟩ : ∃ g, g = c % far := ⟨_, rfl⟩
  obtain ⟨top, htop⟩ : ∃ top, top = a % 4611686014132420608 := ⟨_, rfl⟩
  have r0 : 0 ≤ r := by omega
  have r1 : r < 2147483647 := by omega
  have g0 : 0 ≤ g := by rw [hg]; exact Int.emod_nonneg _ (by omega)
  have g1 : g < far := by rw [hg]; exact Int.emod_lt_of_pos _ (by omega)
  have t0 : 0 ≤ top := by omega
  have t1 : top < 4611686014132420608 := by omega
  have h3 : ye3.den E = far := by
    show IntKind.i64.wrap (1 + IntKind.i64.wrap ((IntKind.u32.wrap (E.i 1)).tmod 2147483647)) = _
    rw [i1, ws_u32, Int.emod_eq_of_lt b0 b1, Int.tmod_eq_emod_of_nonneg b0, ← hr, w64 (n := r) (by omega), w64 (by omega), hfar]
  have h5 : ye5.den E = -1 + far := by
    show IntKind.i64.wrap (-1 + ye3.den E) = _
    rw [h3]; exact w64 (by omega)
  have h17 : ye17.den E = g := by
    show (IntKind.i64.wrap (IntKind.u32.wrap (E.i 2))).tmod (ye3.den E) = g
    rw [h3, i2, ws_u32, Int.emod_eq_of_lt c0 c1, w64 (by omega), Int.tmod_eq_emod_of_nonneg c0, hg]
  have h19 : ye19.den E = -1 + g := by
    show IntKind.i64.wrap (-1 + ye17.den E) = _
    rw [h17]; exact w64 (by omega)
  have h22 : ye22.den E = top := by
    show IntKind.i64.wrap ((IntKind.u64.wrap (E.i 0)).tmod 4611686014132420608) = _
    rw [i0, wrap_u64, Int.emod_eq_of_lt a0 a1, Int.tmod_eq_emod_of_nonneg a0, ← htop]; exact w64 (by omega)
  have h24 : ye24.den E = top + far := by
    show IntKind.i64.wrap (ye22.den E + ye3.den E) = _
    rw [h22, h3]; exact w64 (by omega)
  have h36 : ye36.den E = top + g := by
    show IntKind.i64.wrap (ye22.den E + ye17.den E) = _
    rw [h22, h17]; exact w64 (by omega)
  obtain ⟨L, M, q1, q2, q3, q4, q5, q6, q7⟩ := one_len (-1) far g (by omega) (by omega) (by omega) (by omega) g0 g1
  obtain ⟨K, N, p1, p2, p3, p4, p5, p6, p7⟩ := one_len top far g (by omega) t1 (by omega) (by omega) g0 g1
  have ef : ∀ x y z u, E.f 0 x y z u = pn x y z := by intro x y z u; rw [hE]; rfl
  have ef1 : ∀ x y z u, E.f 1 x y z u = pnLen x y := by intro x y z u; rw [hE]; rfl
  have k6 : ye6.den E = L := by
    show E.f 1 (ye5.den E) (-1) 0 0 = L
    rw [ef1, h5, q1]
  have k9 : ye9.den E = 8 * L := by
    show IntKind.u64.wrap (IntKind.i64.wrap (8 * ye6.den E)) = _
    rw [k6, w64 (by omega), wrap_u64]; omega
  have k15 : ye15.den E = M := by
    show IntKind.i64.wrap (1 * 2 ^ min (ye6.den E * 8).toNat 64) = _
    rw [k6, Int.mul_comm L 8]; exact q5
  have k13 : ye13.den E = (-1 + far) % M := by
    show Go.bits .and .i64 (ye5.den E) (IntKind.i64.wrap (IntKind.i64.wrap (1 * 2 ^ min (ye9.den E).toNat 64) - 1)) = _
    rw [h5, k9, q5]; exact q6
  have k20 : ye20.den E = -1 + far := by
    show E.f 0 (ye6.den E) (ye19.den E) (ye13.den E) 0 = _
    rw [ef, k6, h19, k13, q7]
  have k25 : ye25.den E = K := by
    show E.f 1 (ye24.den E) (ye22.den E) 0 0 = K
    rw [ef1, h24, h22, p1]
  have k28 : ye28.den E = 8 * K := by
    show IntKind.u64.wrap (IntKind.i64.wrap (8 * ye25.den E)) = _
    rw [k25, w64 (by omega), wrap_u64]; omega
  have k34 : ye34.den E = N := by
    show IntKind.i64.wrap (1 * 2 ^ min (ye25.den E * 8).toNat 64) = _
    rw [k25, Int.mul_comm K 8]; exact p5
  have k32 : ye32.den E = (top + far) % N := by
    show Go.bits .and .i64 (ye24.den E) (IntKind.i64.wrap (IntKind.i64.wrap (1 * 2 ^ min (ye28.den E).toNat 64) - 1)) = _
    rw [h24, k28, p5]; exact p6
  have k37 : ye37.den E = top + far := by
    show E.f 0 (ye25.den E) (ye36.den E) (ye32.den E) 0 = _
    rw [ef, k25, h36, k32, p7]
  have m0 := Int.emod_nonneg (-1 + far) (show M ≠ 0 by omega)
  have m1 := Int.emod_lt_of_pos (-1 + far) q4
  obtain ⟨u, hu⟩ : ∃ u, u = (-1 + far) % M := ⟨_, rfl⟩
  rw [← hu] at k13 m0 m1
  have m2 := Int.emod_nonneg (top + far) (show N ≠ 0 by omega)
  have m3 := Int.emod_lt_of_pos (top + far) p4
  obtain ⟨v, hv⟩ : ∃ v, v = (top + far) % N := ⟨_, rfl⟩
  rw [← hv] at k32 m2 m3
  intro o ho hf
  unfold youts at ho
  simp only [List.mem_cons, List.not_mem_nil, or_false] at ho
  rcases ho with rfl | rfl | rfl | rfl | rfl | rfl | rfl | rfl | rfl | rfl | rfl | rfl | rfl | rfl | rfl | rfl | rfl | rfl | rfl | rfl | rfl | rfl
  case inr.inr.inr.inr.inl => exact ⟨rfl, _, rfl, eq_t.mpr (by rw [k20, h5])⟩
  case inr.inr.inr.inr.inr.inr.inr.inr.inr.inr.inr.inr.inr.inr.inr.inl => exact ⟨rfl, _, rfl, eq_t.mpr (by rw [k37, h24])⟩
  all_goals
    exfalso
    simp only [yo0, yo1, yo2, yo3, yo5, yo6, yo7, yo8, yo9, yo10, yo11, yo12, yo13, yo14, yo16, yo17, yo18, yo19, yo20, yo21, facts_cons, facts_nil, lt_t, lt_f, le_t, le_f, eq_t, eq_f, h3, h5, h17, h19, h22, h24, h36, k6, k9, k15, k13, k25, k28, k34, k32, d_c, d_v] at hf
    clear h3 h5 h17 h19 h22 h24 h36 k6 k9 k15 k13 k20 k25 k28 k34 k32 k37 i0 i1 i2 hE hu hv ef ef1 q1 q5 q6 q7 p1 p5 p6 p7 hr hg htop
    omega
theorem lawY (a b c : Int) (z : Bool) (a0 : 0 ≤ a) (a1 : a < 18446744073709551616) (b0 : 0 ≤ b) (b1 : b < 4294967296) (c0 : 0 ≤ c) (c1 : c < 4294967296) (w : World) :
    Calls Try.prog 4 #[.int .u64 a, .int .u32 b, .int .u32 c, .bool z] w fun e w' => e = .returned (.bool true) ∧ Below w.heap.size w w' := by
  have ha : (SV.denL (envL [a, b, c] [z]) (fun i => i) yargs).toArray = #[.int .u64 a, .int .u32 b, .int .u32 c, .bool z] := by
    show #[Value.int .u64 (IntKind.u64.wrap a), Value.int .u32 (IntKind.u32.wrap b), Value.int .u32 (IntKind.u32.wrap c), Value.bool z] = _
    rw [ws_u32, wrap_u64, ws_u32, Int.emod_eq_of_lt a0 a1, Int.emod_eq_of_lt b0 b1, Int.emod_eq_of_lt c0 c1]
  rw [← ha]
  refine calls_of_outs (prmL_ok _ _) (gmL0 _) (by intro q hq; cases hq) (facts_nil.mpr trivial) (hok_empty _ w) yrun ?_
  intro o ho hf
  obtain ⟨h1, x, h2, h3⟩ := y_ways a b c z a0 a1 b0 b1 c0 c1 o ho hf
  refine ⟨h1, fun β' w' hx _ => ⟨?_, ext_below hx⟩⟩
  rw [h2, ← h3]; rfl
end Go.Proofs.Ytlkobjghpkifmaa
namespace Go.Proofs.Ytlkobjghpkifmaa
open Go Go.Sx Go.RowKit
theorem lengths_walk (a b c : Int) (z : Bool) (w : World) (ha : (Lit.int .u64 a).wf = true) (hb : (Lit.int .u32 b).wf = true) (hc : (Lit.int .u32 c).wf = true) :
    Calls Try.prog 4 #[.int .u64 a, .int .u32 b, .int .u32 c, .bool z] w fun e w' => e = .returned (.bool true) ∧ Below w.heap.size w w' := by
  simp only [Lit.wf, IntKind.min, IntKind.max, IntKind.signed, IntKind.bits, Bool.and_eq_true, decide_eq_true_eq] at ha hb hc
  simp at ha hb hc
  exact lawY a b c z ha.1 (by omega) hb.1 (by omega) hc.1 (by omega) w
end Go.Proofs.Ytlkobjghpkifmaa
