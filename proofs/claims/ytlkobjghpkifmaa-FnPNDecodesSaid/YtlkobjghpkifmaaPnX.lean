/- The law of decoding: both forms give the same number. -/
import Derived.Test.YtlkobjghpkifmaaPnF
set_option linter.unusedVariables false
set_option linter.unusedSimpArgs false
namespace Go.Proofs.Ytlkobjghpkifmaa
open Go Go.Sx Go.RowKit

theorem x_ways (a b c : Int) (a0 : 0 ≤ a) (a1 : a < 256) (b0 : 0 ≤ b) (b1 : b < 18446744073709551616) (c0 : 0 ≤ c) (c1 : c < 4294967296) :
    ∀ o ∈ xouts, Facts (envL [a, b, c] []) o.facts → o.dead = false ∧ ∃ x : SB, o.res = .bool x ∧ x.den (envL [a, b, c] []) = true := by
  obtain ⟨E, hE⟩ : ∃ E, E = envL [a, b, c] [] := ⟨_, rfl⟩
  rw [← hE]
  have i0 : E.i 0 = a := by rw [hE]; rfl
  have i1 : E.i 1 = b := by rw [hE]; rfl
  have i2 : E.i 2 = c := by rw [hE]; rfl
  obtain ⟨n, hn⟩ : ∃ n, n = a % 4 := ⟨_, rfl⟩
  obtain ⟨l, hl⟩ : ∃ l, l = b % 4611686018427387904 := ⟨_, rfl⟩
  have h1 : xe1.den E = n := by
    show IntKind.i64.wrap ((IntKind.u8.wrap (E.i 0)).tmod 4) = n
    rw [i0, ws_u8, Int.emod_eq_of_lt a0 a1, Int.tmod_eq_emod_of_nonneg a0, ← hn]; exact w64 (by omega)
  have h3 : xe3.den E = 1 + n := by
    show IntKind.i64.wrap (1 + xe1.den E) = _
    rw [h1]; exact w64 (by omega)
  have h6 : xe6.den E = 8 * (1 + n) := by
    show IntKind.u64.wrap (IntKind.i64.wrap (8 * xe3.den E)) = _
    rw [h3, w64 (by omega), wrap_u64]; omega
  have h7 : xe7.den E = c := by
    show IntKind.i64.wrap (IntKind.u32.wrap (E.i 2)) = c
    rw [i2, ws_u32, Int.emod_eq_of_lt c0 c1]; exact w64 (by omega)
  have h17 : xe17.den E = l - 1 := by
    show IntKind.i64.wrap (IntKind.i64.wrap ((IntKind.u64.wrap (E.i 1)).tmod 4611686018427387904) - 1) = _
    rw [i1, wrap_u64, Int.emod_eq_of_lt b0 b1, Int.tmod_eq_emod_of_nonneg b0, ← hl, w64 (n := l) (by omega)]; exact w64 (n := l - 1) (by omega)
  have h8 : xe8.den E = IntKind.i64.wrap (1 * 2 ^ min (8 * (1 + n)).toNat 64) := by
    show IntKind.i64.wrap (1 * 2 ^ min (xe6.den E).toNat 64) = _
    rw [h6]
  have h13 : xe13.den E = IntKind.i64.wrap (1 * 2 ^ min (8 * (1 + n)).toNat 64) := by
    show IntKind.i64.wrap (1 * 2 ^ min (xe3.den E * 8).toNat 64) = _
    rw [h3, Int.mul_comm (1 + n) 8]
  have key : ∃ M : Int, xe13.den E = M ∧ xe11.den E = c % M ∧ 0 < M := by
    obtain h | h | h | h : n = 0 ∨ n = 1 ∨ n = 2 ∨ n = 3 := by omega
    · rw [h] at h8 h13
      refine ⟨256, h13, ?_, by decide⟩
      show Go.bits .and .i64 (xe7.den E) (IntKind.i64.wrap (xe8.den E - 1)) = _
      rw [h7, h8]; exact and_low 8 (by omega) c 255 (by decide) c0 (by omega)
    · rw [h] at h8 h13
      refine ⟨65536, h13, ?_, by decide⟩
      show Go.bits .and .i64 (xe7.den E) (IntKind.i64.wrap (xe8.den E - 1)) = _
      rw [h7, h8]; exact and_low 16 (by omega) c 65535 (by decide) c0 (by omega)
    · rw [h] at h8 h13
      refine ⟨16777216, h13, ?_, by decide⟩
      show Go.bits .and .i64 (xe7.den E) (IntKind.i64.wrap (xe8.den E - 1)) = _
      rw [h7, h8]; exact and_low 24 (by omega) c 16777215 (by decide) c0 (by omega)
    · rw [h] at h8 h13
      refine ⟨4294967296, h13, ?_, by decide⟩
      show Go.bits .and .i64 (xe7.den E) (IntKind.i64.wrap (xe8.den E - 1)) = _
      rw [h7, h8]; exact and_low 32 (by omega) c 4294967295 (by decide) c0 (by omega)
  obtain ⟨M, k13, k11, hM⟩ := key
  have m0 := Int.emod_nonneg c (show M ≠ 0 by omega)
  have m1 := Int.emod_lt_of_pos c hM
  obtain ⟨u, hu⟩ : ∃ u, u = c % M := ⟨_, rfl⟩
  rw [← hu] at k11 m0 m1
  intro o ho hf
  unfold xouts at ho
  simp only [List.mem_cons, List.not_mem_nil, or_false] at ho
  rcases ho with rfl | rfl | rfl | rfl | rfl | rfl | rfl | rfl
  case inr.inl => exact ⟨rfl, _, rfl, eq_t.mpr rfl⟩
  all_goals
    exfalso
    simp only [xo0, xo2, xo3, xo4, xo5, xo6, xo7, facts_cons, facts_nil, lt_t, lt_f, le_t, le_f, h3, h6, h17, k13, k11, d_c, d_v] at hf
    clear h1 h3 h6 h7 h8 h13 h17 k11 k13 i0 i1 i2 hE hu
    omega
theorem lawX (a b c : Int) (a0 : 0 ≤ a) (a1 : a < 256) (b0 : 0 ≤ b) (b1 : b < 18446744073709551616) (c0 : 0 ≤ c) (c1 : c < 4294967296) (w : World) :
    Calls Try.prog 3 #[.int .u8 a, .int .u64 b, .int .u32 c] w fun e w' => e = .returned (.bool true) ∧ Below w.heap.size w w' := by
  have ha : (SV.denL (envL [a, b, c] []) (fun i => i) xargs).toArray = #[.int .u8 a, .int .u64 b, .int .u32 c] := by
    show #[Value.int .u8 (IntKind.u8.wrap a), Value.int .u64 (IntKind.u64.wrap b), Value.int .u32 (IntKind.u32.wrap c)] = _
    rw [ws_u8, wrap_u64, ws_u32, Int.emod_eq_of_lt a0 a1, Int.emod_eq_of_lt b0 b1, Int.emod_eq_of_lt c0 c1]
  rw [← ha]
  refine calls_of_outs (prmL_ok _ _) (gmL0 _) (by intro q hq; cases hq) (facts_nil.mpr trivial) (hok_empty _ w) xrun ?_
  intro o ho hf
  obtain ⟨h1, x, h2, h3⟩ := x_ways a b c a0 a1 b0 b1 c0 c1 o ho hf
  refine ⟨h1, fun β' w' hx _ => ⟨?_, ext_below hx⟩⟩
  rw [h2, ← h3]; rfl
end Go.Proofs.Ytlkobjghpkifmaa
namespace Go.Proofs.Ytlkobjghpkifmaa
open Go Go.Sx Go.RowKit
theorem decodes_walk (a b c : Int) (w : World) (ha : (Lit.int .u8 a).wf = true) (hb : (Lit.int .u64 b).wf = true) (hc : (Lit.int .u32 c).wf = true) :
    Calls Try.prog 3 #[.int .u8 a, .int .u64 b, .int .u32 c] w fun e w' => e = .returned (.bool true) ∧ Below w.heap.size w w' := by
  simp only [Lit.wf, IntKind.min, IntKind.max, IntKind.signed, IntKind.bits, Bool.and_eq_true, decide_eq_true_eq] at ha hb hc
  simp at ha hb hc
  exact lawX a b c ha.1 (by omega) hb.1 (by omega) hc.1 (by omega) w
end Go.Proofs.Ytlkobjghpkifmaa
