/- The law keeps its contract. -/
import Derived.Test.YtpjifimjoinnnaaDoorFcLw
import Derived.Test.YtpjifimjoinnnaaDoorFcLa
set_option autoImplicit true
set_option relaxedAutoImplicit true
set_option linter.unusedVariables false
set_option linter.unusedSimpArgs false
set_option maxRecDepth 100000
set_option maxHeartbeats 4000000
namespace Go.Proofs.YtpjifimjoinnnaaDoor
open Go Go.Sy Go.RowKit
variable {E0 E : Env}
noncomputable def zF : Fx := [((.v 1005), true), ((.le (.c 0) (.v 1004)), true), ((.le (.v 1004) (.c 11)), true), ((.le (.c 0) (.v 1005)), true), ((.lt (.v 1005) (.v 41)), true), ((.le (.c 0) (.v 1006)), true), ((.le (.v 1006) (.c 260000000)), true), ((.le (.c 0) (.v 1007)), true), ((.le (.v 1007) (.c 1000000)), true), ((.le (.c 0) (.v 1008)), true), ((.le (.v 1008) (.c 4294967296)), true), ((.le (.c 0) (.v 1009)), true), ((.le (.v 1009) (.c 4294967296)), true), ((.le (.c 0) (.v 1010)), true), ((.le (.v 1010) (.c 9223372036854775807)), true), ((.le (.v 1009) (.v 1010)), true), ((.le zhe28 (.v 50)), true), ((.le (.v 1009) (.v 1002)), true), ((.and (.lt (.c 0) (.v 1002)) (.not (.lt (.v 1009) (.v 1002)))), false), ((.and (.and (.v 1005) (.not (.eq zhe31 (.c 0)))) (.not (.lt (.c 3) (.v 1004)))), false), ((.and (.eq (.v 1004) (.c 1)) (.not (.le zhe34 zhe35))), false), ((.and (.eq (.v 1004) (.c 7)) (.not (.le zhe38 zhe40))), false), ((.and (.eq (.v 1004) (.c 7)) (.not (.le zhe41 (.v 8)))), false), ((.and (.eq (.v 1004) (.c 11)) (.not (.le (.c 1000000) (.v 1006)))), false), ((.and (.and (.v 1005) (.eq (.v 1004) (.c 11))) (.v 12)), false), ((.and (.lt (.v 1004) (.c 11)) (.not (.le (.v 1006) (.c 1000000)))), false), ((.le (.v 1007) zhe42), true), ((.le (.c 0) (.v 1000)), true), ((.le (.v 1000) (.c 255)), true), ((.le (.c 0) (.v 1001)), true), ((.le (.v 1001) (.c 4294967296)), true), ((.le (.c 0) (.v 1002)), true), ((.le (.v 1002) (.c 4294967296)), true), ((.le (.c 0) (.v 1003)), true), ((.le (.v 1003) (.c 9223372036854775807)), true), ((.le (.v 1002) (.v 1003)), true), ((.le zhe43 (.v 50)), true), ((.le (.v 1002) (.v 52)), true), ((.and (.lt (.c 0) (.v 52)) (.not (.lt (.v 1002) (.v 52)))), false), ((.lt (.c 0) (.v 52)), true), ((.lt (.v 42) (.c 60)), true), ((.le (.c 0) (.v 50)), true), ((.le (.v 50) (.c 4294967296)), true), ((.le (.c 0) (.v 51)), true), ((.le (.v 51) (.c 4294967296)), true), ((.le (.c 0) (.v 52)), true), ((.le (.v 52) (.c 4294967296)), true), ((.le (.c 0) (.v 53)), true), ((.le (.v 53) (.c 9223372036854775807)), true), ((.le (.v 52) (.v 53)), true), ((.le zhe44 (.v 50)), true), ((.ap 1 (.a (.v 5) (.i (.v 50) .nil))), true), ((.le (.c 0) (.v 22)), true), ((.le (.v 22) (.c 1020)), true), ((.le (.c 1) (.v 41)), true), ((.le (.v 41) (.c 3)), true), ((.le (.c 0) (.v 42)), true), ((.le (.v 42) (.c 60)), true), ((.le (.c 0) (.v 64)), true), ((.le (.v 64) (.c 900000000000000000)), true), ((.le (.c 0) (.v 0)), true), ((.le (.v 0) (.c 1000000)), true), ((.le (.c 0) (.v 2)), true), ((.le (.v 2) (.c 1000000)), true), ((.le (.c 0) (.v 7)), true), ((.le (.v 7) (.c 1000000)), true), ((.le (.c 0) (.v 8)), true), ((.le (.v 8) (.c 1000000)), true), ((.le (.v 7) (.v 8)), true), ((.le (.v 0) (.v 2)), true), ((.ap 2 (.a (.v 0) (.i (.v 41) .nil))), true)]
def s0L (E : Env) : Fs := st0 (E.i 20) (E.i 21) (E.i 22) (E.a 2)
def BOk (B : Nat → Int) (n : Nat) : Prop := ∀ i, i < n → (4 ≤ B (3 * i) ∧ B (3 * i) ≤ 1024) ∧ (4 ≤ B (3 * i + 1) ∧ B (3 * i + 1) ≤ 4096) ∧ (0 ≤ B (3 * i + 2) ∧ B (3 * i + 2) ≤ 1020)
def Win (E0 E : Env) : Prop := E.i 50 = E0.i 50 ∧ E.a 5 = E0.a 5 ∧ (0 ≤ E.i 51 ∧ E.i 51 ≤ 4294967296) ∧ 0 ≤ E.i 52 ∧ (0 ≤ E.i 53 ∧ E.i 53 ≤ 9223372036854775807) ∧ E.i 52 ≤ E.i 53 ∧ E.i 51 + E.i 52 ≤ E.i 50 ∧ E.i 50 ≤ 2147483647
def Cn (E : Env) : Prop := (8 ≤ E.i 20 ∧ E.i 20 ≤ 2048) ∧ (8 ≤ E.i 21 ∧ E.i 21 ≤ 8192) ∧ (0 ≤ E.i 22 ∧ E.i 22 ≤ 1020)
def K8 (E0 E : Env) : Prop := Win E0 E ∧ Cn E ∧ (1 ≤ E.i 43 ∧ E.i 43 ≤ 3) ∧ (0 ≤ E.i 41 ∧ E.i 41 ≤ E.i 43) ∧ BOk (E.a 2) (E.i 41).toNat
def Scr (E : Env) (k : Nat) : Prop := E.i 42 = k ∧ k ≤ 60 ∧ Run (E.i 41).toNat (s0L E) (E.a 6) k ∧ Same (E.i 41).toNat (sE E) (runF 0 (s0L E) (E.a 6) k) ∧ (∀ j, j < 8 * k → E.a 7 j = outF 0 (s0L E) (E.a 6) j) ∧ lastT (E.a 6) k ≤ E.i 64 ∧ 0 ≤ E.i 64 ∧ E.i 64 ≤ 1 + 255000000 * (E.i 50 - E.i 52)
def K15 (E0 E : Env) : Prop := Win E0 E ∧ Cn E ∧ (1 ≤ E.i 41 ∧ E.i 41 ≤ 3) ∧ BOk (E.a 2) (E.i 41).toNat ∧ ∃ k : Nat, Scr E k
def Cmp (W G : Nat → Int) (n : Int) : Prop := ∀ i : Nat, (i : Int) < n → (W (8 * i) ≠ 0 → G (8 * i) = W (8 * i)) ∧ (W (8 * i) = 0 → ∀ c, c < 8 → G (8 * i + c) = W (8 * i + c))
def K26 (E0 E : Env) : Prop := E.i 50 = E0.i 50 ∧ E.a 5 = E0.a 5 ∧ (0 ≤ E.i 42 ∧ E.i 42 ≤ 60) ∧ (0 ≤ E.i 44 ∧ E.i 44 ≤ E.i 42) ∧ Cmp (E.a 7) (E.a 8) (E.i 42)
def KL (E0 : Env) (k : Nat) (E : Env) : Prop := if k = 0 then K8 E0 E else if k = 1 then K15 E0 E else K26 E0 E
def muL (_ : Env) (k : Nat) (E : Env) : Nat := if k = 0 then 10000000000 + (E.i 43 - E.i 41).toNat else if k = 1 then 1000 + (E.i 52).toNat else (E.i 42 - E.i 44).toNat
theorem K8_ag {E' : Env} (H : AgE 1000 E E') (h : K8 E0 E) : K8 E0 E' := by
  have h' : K8 E0 (cutE E) := h
  rw [← cut_ag H] at h'; exact h'
theorem K15_ag {E' : Env} (H : AgE 1000 E E') (h : K15 E0 E) : K15 E0 E' := by
  have h' : K15 E0 (cutE E) := h
  rw [← cut_ag H] at h'; exact h'
theorem K26_ag {E' : Env} (H : AgE 1000 E E') (h : K26 E0 E) : K26 E0 E' := by
  have h' : K26 E0 (cutE E) := h
  rw [← cut_ag H] at h'; exact h'
noncomputable def xL (E : Env) : Stp1 := ⟨E.i 1004, E.i 1005, E.i 1006, E.i 1007, zhe4.den E, b2i (E.b 1004)⟩
theorem c20 (hE : E.fn = fns) (j : Nat) : (SE.ap 20 (.i (.c j) (.a zhe2 (.i (.v 40) (.b (.v 12) (.a (.v 0) (.i (.v 1004) (.i (.v 1005) (.i (.v 1006) (.i (.v 1007) (.i zhe4 (.b (.v 1004) .nil)))))))))))).den E = (stp 0 (sE E) (xL E)).c.get j := by
  show E.fn.f 20 [.i (j : Int), .a (cA.den E), .i (E.i 40), .i (b2i (E.b 12)), .a ((AE.v 0).den E), .i (E.i 1004), .i (E.i 1005), .i (E.i 1006), .i (E.i 1007), .i (zhe4.den E), .i (b2i (E.b 1004))] = _
  rw [hE]
  show (stp 0 ⟨toP (cA.den E) 0, _, _, _⟩ _).c.get ((j : Int).toNat) = _
  rw [cA_den, Int.toNat_natCast]
  rfl
theorem c21 (hE : E.fn = fns) (j : Nat) : (SE.ap 21 (.i (.c j) (.a zhe2 (.i (.v 40) (.b (.v 12) (.a (.v 0) (.i (.v 1004) (.i (.v 1005) (.i (.v 1006) (.i (.v 1007) (.i zhe4 (.b (.v 1004) .nil)))))))))))).den E = seenF 0 (sE E) (xL E) j := by
  show E.fn.f 21 [.i (j : Int), .a (cA.den E), .i (E.i 40), .i (b2i (E.b 12)), .a ((AE.v 0).den E), .i (E.i 1004), .i (E.i 1005), .i (E.i 1006), .i (E.i 1007), .i (zhe4.den E), .i (b2i (E.b 1004))] = _
  rw [hE]
  show seenF 0 ⟨toP (cA.den E) 0, _, _, _⟩ _ ((j : Int).toNat) = _
  rw [cA_den, Int.toNat_natCast]
  rfl
theorem a27 (hE : E.fn = fns) (o : Nat) : zhe27.den E o = ((stp 0 (sE E) (xL E)).p (o / 12)).get (o % 12) := by
  show E.fn.a 1 [.a (cA.den E), .i (E.i 40), .i (b2i (E.b 12)), .a ((AE.v 0).den E), .i (E.i 1004), .i (E.i 1005), .i (E.i 1006), .i (E.i 1007), .i (zhe4.den E), .i (b2i (E.b 1004))] o = _
  rw [hE]
  show ((stp 0 ⟨toP (cA.den E) 0, _, _, _⟩ _).p (o / 12)).get (o % 12) = _
  rw [cA_den]
  rfl
theorem g3L (hE : E.fn = fns) : (SB.ap 3 (.a zhe2 (.i (.v 40) (.b (.v 12) (.a (.v 0) (.i (.v 1004) (.i (.v 1005) (.i (.v 1006) (.i (.v 1007) (.i zhe4 (.b (.v 1004) (.i (.v 41) .nil)))))))))))).den E = true ↔ ok7 (E.i 41).toNat (sE E) (xL E) := by
  show E.fn.g 3 [.a (cA.den E), .i (E.i 40), .i (b2i (E.b 12)), .a ((AE.v 0).den E), .i (E.i 1004), .i (E.i 1005), .i (E.i 1006), .i (E.i 1007), .i (zhe4.den E), .i (b2i (E.b 1004)), .i (E.i 41)] = true ↔ _
  rw [hE]
  show @decide (ok7 _ ⟨toP (cA.den E) 0, _, _, _⟩ _) (Classical.propDecidable _) = true ↔ _
  rw [cA_den]
  exact @decide_eq_true_iff _ (Classical.propDecidable _)
theorem g0L (hE : E.fn = fns) (X : AE) (m : SE) : (SB.ap 0 (.i (.v 20) (.i (.v 21) (.i (.v 22) (.a (.v 2) (.i (.v 41) (.a X (.i m .nil)))))))).den E = true ↔ scrOk (E.i 41).toNat (s0L E) (X.den E) (m.den E).toNat := by
  show E.fn.g 0 [.i (E.i 20), .i (E.i 21), .i (E.i 22), .a ((AE.v 2).den E), .i (E.i 41), .a (X.den E), .i (m.den E)] = true ↔ _
  rw [hE]
  exact @decide_eq_true_iff _ (Classical.propDecidable _)
theorem a45 (hE : E.fn = fns) (X : AE) (o : Nat) : (AE.ap 0 (.i (.v 20) (.i (.v 21) (.i (.v 22) (.a (.v 2) (.a X .nil)))))).den E o = outF 1 (s0L E) (X.den E) o := by
  show E.fn.a 0 [.i (E.i 20), .i (E.i 21), .i (E.i 22), .a ((AE.v 2).den E), .a (X.den E)] o = _
  rw [hE]; rfl
theorem toP_of (f : Nat → P1) (i : Nat) : toP (fun o => (f (o / 12)).get (o % 12)) i = f i := by
  have h : ∀ c, c < 12 → (f ((12 * i + c) / 12)).get ((12 * i + c) % 12) = (f i).get c := fun c hc => by
    rw [show (12 * i + c) / 12 = i by omega, show (12 * i + c) % 12 = c by omega]
  have h0 := h 0 (by decide)
  unfold toP
  simp only [h 1 (by decide), h 2 (by decide), h 3 (by decide), h 4 (by decide), h 5 (by decide), h 6 (by decide), h 7 (by decide), h 8 (by decide), h 9 (by decide), h 10 (by decide), h 11 (by decide)]
  rw [show 12 * i = 12 * i + 0 by omega, h0]
  rfl
theorem same_ok7 {n : Nat} {s s' : Fs} {x : Stp1} (h : Same n s s') (o : ok7 n s' x) : ok7 n s x := by
  have hS : x.S.toNat < n := by
    obtain ⟨_, _, _, _, hS, _⟩ := o
    omega
  unfold ok7 at o ⊢
  rw [h.c, h.p _ hS, h.rtt]
  exact o
theorem same_ok0 {n : Nat} {s s' : Fs} {x : Stp1} (h : Same n s s') (hS : x.S.toNat < n) (o : Ok0 n s x) : Ok0 n s' x := by
  have hp := h.p _ hS
  refine ⟨o.k, o.S, o.n0, ?_, ?_, ?_, ?_, ?_, o.n1⟩
  · rw [← hp]; exact o.off
  · rw [← hp]; exact o.gone
  · rw [← hp]; exact o.r
  · rw [← hp, ← h.c]; exact o.sn
  · rw [← h.smp]; exact o.rt
theorem rL (h : 0 ≤ E.i 1005) (c : Nat) : (SE.rd (.v 0) (.add (.mul (.v 1005) (.c 12)) (.c c))).den E = E.a 0 (12 * (E.i 1005).toNat + c) := by
  rw [d_rd, d_av, d_add, d_mul, d_v, d_c, d_c, show (E.i 1005 * 12 + (c : Int)).toNat = 12 * (E.i 1005).toNat + c by omega]
theorem step15 (hK : K15 E0 E) (hf : Facts E zF) : Ok0 (E.i 41).toNat (sE E) (xL E) := by
  have k0 : 0 ≤ E.i 1004 := le_t.1 ((fat hf 1 rfl))
  have k1 : E.i 1004 ≤ 11 := le_t.1 ((fat hf 2 rfl))
  have S0 : 0 ≤ E.i 1005 := le_t.1 ((fat hf 3 rfl))
  have S1 : E.i 1005 < E.i 41 := lt_t.1 ((fat hf 4 rfl))
  have n0 : 0 ≤ E.i 1006 := le_t.1 ((fat hf 5 rfl))
  have n1 : E.i 1006 ≤ 260000000 := le_t.1 ((fat hf 6 rfl))
  have o0 : 0 ≤ E.i 1007 := le_t.1 ((fat hf 7 rfl))
  have rl := fun c => rL S0 c
  have r0 : zhe35.den E = E.a 0 (12 * (E.i 1005).toNat) := by
    show E.a 0 (E.i 1005 * 12).toNat = _
    rw [show (E.i 1005 * 12).toNat = 12 * (E.i 1005).toNat by omega]
  have o1 : E.i 1007 ≤ zhe35.den E + 510 := le_t.1 ((fat hf 26 rfl))
  have w5 : E.b 1005 = true := (fat hf 0 rfl)
  have gn := imp_f.1 ((fat hf 19 rfl))
  have rr := imp_f.1 ((fat hf 20 rfl))
  have ss := imp_f.1 ((fat hf 21 rfl))
  have sc := imp_f.1 ((fat hf 22 rfl))
  have rt := imp_f.1 ((fat hf 23 rfl))
  have sm := (fat hf 24 rfl)
  have nn := imp_f.1 ((fat hf 25 rfl))
  simp only [and_t, and_f, not_t, eq_t, eq_f, lt_t, le_t, d_v, d_c, d_bv] at gn rr ss sc rt sm nn
  have S1' : E.i 1005 < ((E.i 41).toNat : Int) := by omega
  refine ⟨⟨k0, k1⟩, ⟨S0, S1'⟩, ⟨n0, n1⟩, ⟨o0, ?_⟩, fun h => ?_, fun h => ?_, fun h => ⟨?_, sc h⟩, fun h => ⟨rt h, ?_⟩, nn⟩
  · rw [r0] at o1; exact o1
  · exact gn ⟨w5, fun hz => h ((rl 11).symm.trans hz)⟩
  · have := rr h
    have e1 : zhe34.den E = E.a 0 (12 * (E.i 1005).toNat + 1) + E.i 1006 := by
      show zhe33.den E + E.i 1006 = _
      rw [show zhe33.den E = _ from rl 1]
    rw [e1, r0] at this; exact this
  · have := ss h
    have e1 : zhe38.den E = E.a 0 (12 * (E.i 1005).toNat + 7) + E.i 1006 := by
      show zhe37.den E + E.i 1006 = _
      rw [show zhe37.den E = _ from rl 7]
    rw [e1, show zhe40.den E = _ from rl 8] at this; exact this
  · show b2i (E.b 12) = 0
    have h' : E.i 1004 = 11 := h
    cases hb : E.b 12 with
    | true => exact (sm ⟨⟨w5, h'⟩, hb⟩).elim
    | false => rfl
theorem time15 (hK : K15 E0 E) (hf : Facts E zF) : E.i 64 ≤ zhe4.den E ∧ 0 ≤ zhe4.den E ∧ zhe4.den E ≤ 1 + 255000000 * (E.i 50 - E.i 1009) ∧ zhe4.den E ≤ 1000000000000000000 ∧ E.i 1009 < E.i 52 ∧ (0 ≤ E.i 1008 ∧ E.i 1008 ≤ 4294967296) ∧ 0 ≤ E.i 1009 ∧ (0 ≤ E.i 1010 ∧ E.i 1010 ≤ 9223372036854775807) ∧ E.i 1009 ≤ E.i 1010 ∧ E.i 1008 + E.i 1009 ≤ E.i 50 ∧ E.i 42 < 60 := by
  obtain ⟨⟨_, _, _, w0, _, _, _, L⟩, _, _, _, k, _, _, _, _, _, _, t0, t1⟩ := hK
  have b0 : 0 ≤ E.i 1000 := le_t.1 ((fat hf 27 rfl))
  have b1 : E.i 1000 ≤ 255 := le_t.1 ((fat hf 28 rfl))
  have l1 : E.i 1009 ≤ E.i 1002 := le_t.1 ((fat hf 17 rfl))
  have l2 : E.i 1002 ≤ E.i 52 := le_t.1 ((fat hf 37 rfl))
  have l3 := imp_f.1 ((fat hf 38 rfl))
  have l4 : 0 < E.i 52 := lt_t.1 ((fat hf 39 rfl))
  have l5 : E.i 1002 < E.i 52 := lt_t.1 (l3 (lt_t.2 l4))
  have m0 : 0 ≤ E.i 1009 := le_t.1 ((fat hf 11 rfl))
  have m1 : 0 ≤ E.i 1008 := le_t.1 ((fat hf 9 rfl))
  have m2 : E.i 1008 ≤ 4294967296 := le_t.1 ((fat hf 10 rfl))
  have m3 : 0 ≤ E.i 1010 := le_t.1 ((fat hf 13 rfl))
  have m4 : E.i 1010 ≤ 9223372036854775807 := le_t.1 ((fat hf 14 rfl))
  have m5 : E.i 1009 ≤ E.i 1010 := le_t.1 ((fat hf 15 rfl))
  have m6 : E.i 1008 + E.i 1009 ≤ E.i 50 := le_t.1 ((fat hf 16 rfl))
  have m7 : E.i 42 < 60 := lt_t.1 ((fat hf 40 rfl))
  have e : zhe4.den E = E.i 64 + E.i 1000 * 1000000 := rfl
  rw [e]
  refine ⟨by omega, by omega, by omega, by omega, by omega, ⟨m1, m2⟩, m0, ⟨m3, m4⟩, m5, m6, m7⟩
noncomputable def XL (E : Env) : Nat → Int := zhe26.den E
theorem XL_old {k : Nat} (hk : E.i 42 = k) (i : Nat) (hi : i < 6 * k) : XL E i = E.a 6 i := by
  have e : (zhe25.den E).toNat = 6 * k := by
    show (E.i 42 * 6).toNat = _; omega
  show (AE.den E (.tl (.v 6) zhe25 _) i) = _
  simp only [AE.den, e, if_pos hi]
theorem XL_new {k : Nat} (hk : E.i 42 = k) : inp (XL E) k = xL E := by
  have e : (zhe25.den E).toNat = 6 * k := by
    show (E.i 42 * 6).toNat = _; omega
  have h : ∀ c, XL E (6 * k + c) = (SL.i (.v 1004) (.i (.v 1005) (.i (.v 1006) (.i (.v 1007) (.i zhe4 (.b (.v 1004) .nil)))))).nth E c := fun c => by
    show (AE.den E (.tl (.v 6) zhe25 _) (6 * k + c)) = _
    simp only [AE.den, e, if_neg (show ¬ 6 * k + c < 6 * k by omega), show 6 * k + c - 6 * k = c by omega]
  have h0 := h 0
  unfold inp
  rw [show 6 * k = 6 * k + 0 by omega, h0, show 6 * k + 0 + 1 = 6 * k + 1 by omega, h 1, show 6 * k + 0 + 2 = 6 * k + 2 by omega, h 2, show 6 * k + 0 + 3 = 6 * k + 3 by omega, h 3, show 6 * k + 0 + 4 = 6 * k + 4 by omega, h 4, show 6 * k + 0 + 5 = 6 * k + 5 by omega, h 5]
  rfl
theorem b2i_nz (v : Int) (h : v = 0 ∨ v = 1) : b2i (!(v == 0)) = v := by rcases h with rfl | rfl <;> rfl
theorem seen_01 {s : Fs} {x : Stp1} (j : Nat) (h : j = 2 ∨ j = 3) : seenF 0 s x j = 0 ∨ seenF 0 s x j = 1 := by
  rcases h with rfl | rfl <;> (unfold seenF; simp only; split <;> simp)
theorem WL {k : Nat} (hE : E.fn = fns) (hk : E.i 42 = k) (j : Nat) (hj : j < 8 * (k + 1)) : zhe24.den E j = if j < 8 * k then E.a 7 j else seenF 0 (sE E) (xL E) (j - 8 * k) := by
  have e : (zhe15.den E).toNat = 8 * k := by
    show (E.i 42 * 8).toNat = _; omega
  show (AE.den E (.tl (.v 7) zhe15 _) j) = _
  simp only [AE.den, e]
  split
  · rfl
  · rename_i h
    obtain ⟨c, rfl⟩ : ∃ c, j = 8 * k + c := ⟨j - 8 * k, by omega⟩
    rw [show 8 * k + c - 8 * k = c by omega]
    have hc : c < 8 := by omega
    match c, hc with
    | 0, _ => exact c21 hE 0
    | 1, _ => exact c21 hE 1
    | 2, _ =>
      show b2i (!(zhe18.den E == 0)) = _
      rw [show zhe18.den E = _ from c21 hE 2]; exact b2i_nz _ (seen_01 2 (.inl rfl))
    | 3, _ =>
      show b2i (!(zhe19.den E == 0)) = _
      rw [show zhe19.den E = _ from c21 hE 3]; exact b2i_nz _ (seen_01 3 (.inr rfl))
    | 4, _ => exact c21 hE 4
    | 5, _ => exact c21 hE 5
    | 6, _ => exact c21 hE 6
    | 7, _ => exact c21 hE 7
structure New (E0 E : Env) (k : Nat) : Prop where
  hk : E.i 42 = k
  k60 : k < 60
  run : Run (E.i 41).toNat (s0L E) (XL E) k
  same : Same (E.i 41).toNat (sE E) (runF 0 (s0L E) (XL E) k)
  ok : Ok0 (E.i 41).toNat (runF 0 (s0L E) (XL E) k) (xL E)
  lt : lastT (XL E) k ≤ (xL E).at_
  at0 : 0 ≤ (xL E).at_ ∧ (xL E).at_ ≤ 1000000000000000000
  W : ∀ j, j < 8 * k → E.a 7 j = outF 0 (s0L E) (XL E) j
theorem new15 (hK : K15 E0 E) (hf : Facts E zF) : ∃ k : Nat, New E0 E k := by
  have st := step15 hK hf
  obtain ⟨t0, t1, t2, t3, _, _, _, _, _, _, t60⟩ := time15 hK hf
  obtain ⟨_, _, _, _, k, hk, k60, run, same, hW, lt, _⟩ := hK
  have old := XL_old hk
  have e1 : runF 0 (s0L E) (XL E) k = runF 0 (s0L E) (E.a 6) k := runF_congr old
  have hS : (xL E).S.toNat < (E.i 41).toNat := by have := st.S; omega
  refine ⟨k, hk, by omega, run.congr old, by rw [e1]; exact same, by rw [e1]; exact same_ok0 same hS st, ?_, ⟨t1, t3⟩, fun j hj => ?_⟩
  · rw [lastT_congr old]; exact Int.le_trans lt t0
  · rw [hW j hj]
    unfold outF
    have hq : j / 8 < k := by omega
    rw [runF_congr (j := j / 8) fun i hi => old i (by omega), inp_congr (j := j / 8) fun i hi => old i (by omega)]
theorem New.S {k : Nat} (h : New E0 E k) : (xL E).S.toNat < (E.i 41).toNat := by have := h.ok.S; omega
theorem New.code {k : Nat} (hE : E.fn = fns) (h : New E0 E k) : zhe16.den E = codeF (runF 0 (s0L E) (XL E) k) (inp (XL E) k) := by
  rw [XL_new h.hk, show zhe16.den E = _ from c21 hE 0]
  exact same_seen h.same h.S 0
theorem New.W' {k : Nat} (hE : E.fn = fns) (h : New E0 E k) (j : Nat) (hj : j < 8 * (k + 1)) : zhe24.den E j = outF 0 (s0L E) (XL E) j := by
  rw [WL hE h.hk j hj]
  split
  · rename_i hl; exact h.W j hl
  · rename_i hl
    unfold outF
    rw [show j / 8 = k by omega, show j % 8 = j - 8 * k by omega, XL_new h.hk]
    exact same_seen h.same h.S _
theorem stp_rtt {s : Fs} {x : Stp1} (hk : 0 ≤ x.k ∧ x.k ≤ 11) : (stp 0 s x).rtt = if x.k = 11 then x.n else s.rtt := by
  rcases kind_cases hk with h | h | h | h | h | h | h | h | h | h | h | h <;> (unfold stp; simp only [h]; first | rfl | (simp; done) | (simp; repeat' split) <;> rfl)
theorem stp_smp {s : Fs} {x : Stp1} (hk : 0 ≤ x.k ∧ x.k ≤ 11) : (stp 0 s x).smp = if x.k = 11 then 1 else s.smp := by
  rcases kind_cases hk with h | h | h | h | h | h | h | h | h | h | h | h <;> (unfold stp; simp only [h]; first | rfl | (simp; done) | (simp; repeat' split) <;> rfl)
theorem stp_cfin {s : Fs} {x : Stp1} (hk : 0 ≤ x.k ∧ x.k ≤ 11) : (stp 0 s x).c.fin = s.c.fin ∧ (stp 0 s x).c.gone = s.c.gone := by
  rcases kind_cases hk with h | h | h | h | h | h | h | h | h | h | h | h <;> (unfold stp; simp only [h]; first | exact ⟨rfl, rfl⟩ | (simp; done) | (simp; repeat' split) <;> exact ⟨rfl, rfl⟩)
theorem sE_new (hE : E.fn = fns) (hk : 0 ≤ (xL E).k ∧ (xL E).k ≤ 11) : (⟨⟨zhe14.den E, zhe13.den E, zhe12.den E, zhe11.den E, zhe10.den E, zhe9.den E, zhe8.den E, zhe7.den E, zhe6.den E, zhe5.den E, b2i (E.b 10), b2i (E.b 11)⟩, toP (zhe27.den E), zhe1.den E, b2i ((SB.not (.and (.not (.eq (.v 1004) (.c 11))) (.not (.v 12)))).den E)⟩ : Fs) = stp 0 (sE E) (xL E) := by
  have hc := stp_cfin (s := sE E) hk
  have c : (⟨zhe14.den E, zhe13.den E, zhe12.den E, zhe11.den E, zhe10.den E, zhe9.den E, zhe8.den E, zhe7.den E, zhe6.den E, zhe5.den E, b2i (E.b 10), b2i (E.b 11)⟩ : P1) = (stp 0 (sE E) (xL E)).c := by
    apply P1.ext
    · exact c20 hE 0
    · exact c20 hE 1
    · exact c20 hE 2
    · exact c20 hE 3
    · exact c20 hE 4
    · exact c20 hE 5
    · exact c20 hE 6
    · exact c20 hE 7
    · exact c20 hE 8
    · exact c20 hE 9
    · exact hc.1.symm
    · exact hc.2.symm
  apply Fs.ext
  · exact c
  · funext i
    show toP (zhe27.den E) i = _
    rw [show zhe27.den E = fun o => ((stp 0 (sE E) (xL E)).p (o / 12)).get (o % 12) from funext fun o => a27 hE o]
    exact toP_of _ i
  · rw [stp_rtt hk]
    show (if ((E.i 1004 == 11) = true) then E.i 1006 else E.i 40) = if E.i 1004 = 11 then E.i 1006 else E.i 40
    simp only [beq_iff_eq]
  · rw [stp_smp hk]
    show b2i (!(!(E.i 1004 == 11) && !(E.b 12))) = if E.i 1004 = 11 then 1 else b2i (E.b 12)
    by_cases h : E.i 1004 = 11
    · simp [h, b2i]
    · rw [if_neg h]
      have : (E.i 1004 == 11) = false := by simpa using h
      rw [this]; cases E.b 12 <;> rfl
theorem cmp_run {n k : Nat} {s0 : Fs} {X W G : Nat → Int} (h : Run n s0 X k) (hW : ∀ j, j < 8 * k → W j = outF 0 s0 X j) (hG : ∀ j, j < 8 * k → G j = outF 1 s0 X j) : Cmp W G k := fun i hi => by
  have hi : i < k := by omega
  have he : ∀ c, c < 8 → G (8 * i + c) = W (8 * i + c) := fun c hc => by
    rw [hW _ (by omega), hG _ (by omega)]; exact h.out (by omega)
  exact ⟨fun _ => he 0 (by decide), fun _ => he⟩
theorem cmp_new {k : Nat} (hE : E.fn = fns) (h : New E0 E k) (hc : zhe16.den E ≠ 0) : Cmp (zhe24.den E) (zhe45.den E) (zhe0.den E) := by
  have hz : zhe0.den E = ((k + 1 : Nat) : Int) := by
    show E.i 42 + 1 = _; have := h.hk; omega
  rw [hz]
  have hG : ∀ j, zhe45.den E j = outF 1 (s0L E) (XL E) j := fun j => a45 hE zhe26 j
  have c0 := cmp_run h.run (W := zhe24.den E) (G := zhe45.den E) (fun j hj => h.W' hE j (by omega)) (fun j _ => hG j)
  intro i hi
  by_cases hik : i < k
  · exact c0 i (by omega)
  · obtain rfl : i = k := by omega
    have e1 : zhe24.den E (8 * i) = codeF (runF 0 (s0L E) (XL E) i) (inp (XL E) i) := by
      rw [h.W' hE _ (by omega)]; unfold outF
      rw [show 8 * i / 8 = i by omega, show 8 * i % 8 = 0 by omega]; rfl
    refine ⟨fun _ => ?_, fun hz0 => (hc ?_).elim⟩
    · rw [hG, h.W' hE _ (by omega)]
      exact h.run.out_code (by rw [XL_new h.hk]; exact h.ok)
    · rw [h.code hE, ← e1]; exact hz0
theorem prm3_ok (E : Env) (hE : E.fn = fns) : PrmOk E (prm3 Tryd.prog) where
  ct := by
    intro c hc
    simp only [prm3, List.mem_cons, List.not_mem_nil, or_false] at hc
    rw [hE]
    rcases hc with rfl | rfl | rfl | rfl | rfl | rfl | rfl | rfl
    · exact ct4_ok
    · exact ct5_ok
    · exact ct6_ok
    · exact ct7g_ok
    · exact ct9_ok
    · exact ct10_ok
    · exact ct8g_ok
    · exact ct11_ok
  mix := by kernel_rfl
  okf := okf_call
  body := okf_body
  mts := by intro x hx; cases hx
  dfr := by intro x hx; cases hx
  dfk := by intro x hx; cases hx
theorem mul48 {a b : Int} (ha : 0 ≤ a ∧ a ≤ 2048) (hb : 1 ≤ b ∧ b ≤ 4) : a ≤ a * b ∧ a * b ≤ 4 * a := by
  have : b = 1 ∨ b = 2 ∨ b = 3 ∨ b = 4 := by omega
  rcases this with rfl | rfl | rfl | rfl <;> omega
theorem tm4 {a : Int} (h : 0 ≤ a) (m : Int) (hm : 0 < m) : 0 ≤ a.tmod m ∧ a.tmod m < m := by
  rw [Int.tmod_eq_emod_of_nonneg h]
  exact ⟨Int.emod_nonneg _ (by omega), Int.emod_lt_of_pos _ hm⟩
theorem w_f1 (hF : 0 ≤ E0.i 50 ∧ E0.i 50 ≤ E0.i 53 ∧ E0.i 53 ≤ 9223372036854775807) (hag : AgE 1000 E0 E) : VOkX (pts3 Tryd.prog) ct3 KL muL none E0 E zfx1 := by
  intro hf
  refine ⟨⟨_, rfl, .inl ⟨rfl, rfl⟩⟩, fun o => ⟨?_, fun b hb => by cases hb⟩⟩
  have e50 : E.i 50 = E0.i 50 := hag.i 50 (by decide)
  have a0 : 0 ≤ E.i 1000 := le_t.1 ((fat hf 36 rfl))
  have a1 : E.i 1000 ≤ 255 := le_t.1 ((fat hf 37 rfl))
  have b0 : 0 ≤ E.i 1004 := le_t.1 ((fat hf 24 rfl))
  have b1 : E.i 1004 ≤ 255 := le_t.1 ((fat hf 25 rfl))
  have c0 : 0 ≤ E.i 1008 := le_t.1 ((fat hf 12 rfl))
  have d0 : 0 ≤ E.i 1012 := le_t.1 ((fat hf 0 rfl))
  have o0 : 0 ≤ E.i 1013 := le_t.1 ((fat hf 2 rfl))
  have o1 : E.i 1013 ≤ 4294967296 := le_t.1 ((fat hf 3 rfl))
  have l0 : 0 ≤ E.i 1014 := le_t.1 ((fat hf 4 rfl))
  have q0 : 0 ≤ E.i 1015 := le_t.1 ((fat hf 6 rfl))
  have q1 : E.i 1015 ≤ 9223372036854775807 := le_t.1 ((fat hf 7 rfl))
  have lc : E.i 1014 ≤ E.i 1015 := le_t.1 ((fat hf 8 rfl))
  have ol : E.i 1013 + E.i 1014 ≤ E.i 50 := le_t.1 ((fat hf 9 rfl))
  have hL : ¬ (2147483647 : Int) < E.i 50 := by
    have := (fat hf 50 rfl)
    rw [lt_f, d_c, d_v] at this; omega
  have t4 := tm4 c0 4 (by decide)
  have t3 := tm4 d0 3 (by decide)
  have m := mul48 (a := (1 + E.i 1000) * 8) (b := 1 + (E.i 1008).tmod 4) (by omega) (by omega)
  have ew : zfe6.den E = (1 + E.i 1000) * 8 * (1 + (E.i 1008).tmod 4) := w64 (n := (1 + E.i 1000) * 8 * (1 + (E.i 1008).tmod 4)) (by omega)
  refine ⟨⟨e50, hag.a 5 (by decide), ⟨o0, o1⟩, l0, ⟨q0, q1⟩, lc, ol, by show E.i 50 ≤ _; omega⟩, ⟨?_, ?_, ?_⟩, ?_, ?_, ?_⟩
  · show 8 ≤ (1 + E.i 1000) * 8 ∧ (1 + E.i 1000) * 8 ≤ 2048; omega
  · show 8 ≤ zfe6.den E ∧ zfe6.den E ≤ 8192; omega
  · show 0 ≤ E.i 1004 * 4 ∧ E.i 1004 * 4 ≤ 1020; omega
  · show 1 ≤ 1 + (E.i 1012).tmod 3 ∧ 1 + (E.i 1012).tmod 3 ≤ 3; omega
  · show (0 : Int) ≤ 0 ∧ (0 : Int) ≤ 1 + (E.i 1012).tmod 3; omega
  · intro i hi; have hi : i < (0 : Int).toNat := hi; omega
theorem w_g0 (hK : K8 E0 E) : VOkX (pts3 Tryd.prog) ct3 KL muL (some (muL E0 0 E)) E0 E zgx0 := by
  intro hf
  refine ⟨⟨_, rfl, .inr ⟨rfl, rfl⟩⟩, fun o => ⟨?_, fun b hb => ?_⟩⟩
  · obtain ⟨⟨h50, a5, o01, l0', c01, lc', ol', L⟩, cn, n43, n41, hB⟩ := hK
    have hlt : E.i 41 < E.i 43 := lt_t.1 ((fat hf 36 rfl))
    have a0 : 0 ≤ E.i 1000 := le_t.1 ((fat hf 24 rfl))
    have a1 : E.i 1000 ≤ 255 := le_t.1 ((fat hf 25 rfl))
    have b0 : 0 ≤ E.i 1004 := le_t.1 ((fat hf 12 rfl))
    have d0 : 0 ≤ E.i 1008 := le_t.1 ((fat hf 0 rfl))
    have d1 : E.i 1008 ≤ 255 := le_t.1 ((fat hf 1 rfl))
    have o0 : 0 ≤ E.i 1009 := le_t.1 ((fat hf 2 rfl))
    have o1 : E.i 1009 ≤ 4294967296 := le_t.1 ((fat hf 3 rfl))
    have l0 : 0 ≤ E.i 1010 := le_t.1 ((fat hf 4 rfl))
    have q0 : 0 ≤ E.i 1011 := le_t.1 ((fat hf 6 rfl))
    have q1 : E.i 1011 ≤ 9223372036854775807 := le_t.1 ((fat hf 7 rfl))
    have lc : E.i 1010 ≤ E.i 1011 := le_t.1 ((fat hf 8 rfl))
    have ol : E.i 1009 + E.i 1010 ≤ E.i 50 := le_t.1 ((fat hf 9 rfl))
    have t4 := tm4 b0 4 (by decide)
    have m := mul48 (a := (1 + E.i 1000) * 4) (b := 1 + (E.i 1004).tmod 4) (by omega) (by omega)
    have ew : zge7.den E = (1 + E.i 1000) * 4 * (1 + (E.i 1004).tmod 4) := w64 (n := (1 + E.i 1000) * 4 * (1 + (E.i 1004).tmod 4)) (by omega)
    refine ⟨⟨h50, a5, ⟨o0, o1⟩, l0, ⟨q0, q1⟩, lc, ol, L⟩, cn, n43, ?_, ?_⟩
    · show 0 ≤ E.i 41 + 1 ∧ E.i 41 + 1 ≤ E.i 43; omega
    · intro i hi
      have hi : i < (E.i 41 + 1).toNat := hi
      show (4 ≤ zge9.den E (3 * i) ∧ zge9.den E (3 * i) ≤ 1024) ∧ (4 ≤ zge9.den E (3 * i + 1) ∧ zge9.den E (3 * i + 1) ≤ 4096) ∧ (0 ≤ zge9.den E (3 * i + 2) ∧ zge9.den E (3 * i + 2) ≤ 1020)
      have e0 : (zge1.den E).toNat = 3 * (E.i 41).toNat := by
        show (E.i 41 * 3).toNat = _; omega
      simp only [zge9, AE.den, e0]
      by_cases h : i < (E.i 41).toNat
      · rw [if_pos (by omega), if_pos (by omega), if_pos (by omega)]; exact hB i h
      · obtain rfl : i = (E.i 41).toNat := by omega
        rw [if_neg (by omega), if_neg (by omega), if_neg (by omega), show 3 * (E.i 41).toNat - 3 * (E.i 41).toNat = 0 by omega, show 3 * (E.i 41).toNat + 1 - 3 * (E.i 41).toNat = 1 by omega, show 3 * (E.i 41).toNat + 2 - 3 * (E.i 41).toNat = 2 by omega]
        show (4 ≤ (1 + E.i 1000) * 4 ∧ (1 + E.i 1000) * 4 ≤ 1024) ∧ (4 ≤ zge7.den E ∧ zge7.den E ≤ 4096) ∧ (0 ≤ E.i 1008 * 4 ∧ E.i 1008 * 4 ≤ 1020)
        omega
  · obtain rfl := Option.some.inj hb
    have hlt : E.i 41 < E.i 43 := lt_t.1 ((fat hf 36 rfl))
    show 10000000000 + (E.i 43 - (E.i 41 + 1)).toNat < 10000000000 + (E.i 43 - E.i 41).toNat
    omega
theorem w_g1 (hE : E.fn = fns) (hK : K8 E0 E) : VOkX (pts3 Tryd.prog) ct3 KL muL (some (muL E0 0 E)) E0 E zgx1 := by
  intro hf
  refine ⟨⟨_, rfl, .inl ⟨rfl, rfl⟩⟩, fun o => ⟨?_, fun b hb => ?_⟩⟩
  · obtain ⟨⟨h50, a5, o01, l0', c01, lc', ol', L⟩, ⟨k0, k1, k2⟩, n43, n41, hB⟩ := hK
    have hge : ¬ E.i 41 < E.i 43 := by
      have := (fat hf 0 rfl)
      rw [lt_f, d_v, d_v] at this; omega
    refine ⟨⟨h50, a5, o01, l0', c01, lc', ol', L⟩, ⟨k0, k1, k2⟩, by show 1 ≤ E.i 41 ∧ E.i 41 ≤ 3; omega, hB, 0, rfl, by decide, ⟨?_, init_ok k0 k1 k2 hB, fun _ => rfl, fun j hj => by omega, fun j hj => by omega, fun j hj => by omega, fun j hj => by omega⟩, ⟨?_, fun i hi => ?_, rfl, rfl⟩, fun j hj => by omega, ?_, ?_, ?_⟩
    · show (E.i 41).toNat ≤ 3; omega
    · show (⟨0, 0, E.i 20, E.i 20, E.i 21, 0, 0, 0, E.i 22, 0, 0, 0⟩ : P1) = ⟨0, 0, E.i 20, E.i 20, E.i 21, 0, 0, 0, max 0 (E.i 22), 0, 0, 0⟩
      rw [show max 0 (E.i 22) = E.i 22 by omega]
    · show toP (zge14.den E) i = (st0 (E.i 20) (E.i 21) (E.i 22) (E.a 2)).p i
      rw [show zge14.den E = fun o => ((st0 0 0 0 (E.a 2)).p (o / 12)).get (o % 12) from funext fun o => by
        show E.fn.a 2 [.a ((AE.v 2).den E)] o = _
        rw [hE]; rfl]
      exact toP_of _ i
    · show (0 : Int) ≤ 1; decide
    · show (0 : Int) ≤ 1; decide
    · show (1 : Int) ≤ 1 + 255000000 * (E.i 50 - E.i 52); omega
  · obtain rfl := Option.some.inj hb
    obtain ⟨⟨h50, a5, o01, l0', c01, lc', ol', L⟩, _⟩ := hK
    show 1000 + (E.i 52).toNat < 10000000000 + (E.i 43 - E.i 41).toNat
    omega
theorem w_h0 (hE : E.fn = fns) (hK : K15 E0 E) : VOkX (pts3 Tryd.prog) ct3 KL muL (some (muL E0 1 E)) E0 E zhx0 := by
  intro hf
  have hz : Facts E zF := fun q hq => hf q (.tail _ (.tail _ hq))
  have hc : zhe16.den E = 0 := eq_t.1 ((fat hf 0 rfl))
  obtain ⟨k, nw⟩ := new15 hK hz
  obtain ⟨t0, t1, t2, t3, t4, t5, t6, t7, t8, t9, t60⟩ := time15 hK hz
  refine ⟨⟨_, rfl, .inr ⟨rfl, rfl⟩⟩, fun o => ⟨?_, fun b hb => ?_⟩⟩
  · obtain ⟨⟨h50, a5, o01, l0', c01, lc', ol', L⟩, cn, n41, hB, _⟩ := hK
    have hcode := nw.code hE
    rw [hc] at hcode
    have hx := XL_new nw.hk
    have run' : Run (E.i 41).toNat (s0L E) (XL E) (k + 1) := nw.run.step (by rw [hx]; exact nw.ok) (by rw [hx]; exact nw.lt) (by rw [hx]; exact nw.at0) hcode.symm
    refine ⟨⟨h50, a5, t5, t6, t7, t8, t9, L⟩, cn, n41, hB, k + 1, ?_, ?_, run', ?_, fun j hj => nw.W' hE j hj, ?_, t1, t2⟩
    · show E.i 42 + 1 = _; have := nw.hk; omega
    · have := nw.k60; omega
    · have e := sE_new hE nw.ok.k
      show Same (E.i 41).toNat ⟨⟨zhe14.den E, zhe13.den E, zhe12.den E, zhe11.den E, zhe10.den E, zhe9.den E, zhe8.den E, zhe7.den E, zhe6.den E, zhe5.den E, b2i (E.b 10), b2i (E.b 11)⟩, toP (zhe27.den E), zhe1.den E, b2i ((SB.not (.and (.not (.eq (.v 1004) (.c 11))) (.not (.v 12)))).den E)⟩ (runF 0 (s0L E) (XL E) (k + 1))
      rw [e]
      show Same _ _ (stp 0 (runF 0 (s0L E) (XL E) k) (inp (XL E) k))
      rw [hx]
      exact same_stp nw.same nw.S
    · show (inp (XL E) k).at_ ≤ _
      rw [hx]; exact Int.le_refl _
  · obtain rfl := Option.some.inj hb
    show 1000 + (E.i 1009).toNat < 1000 + (E.i 52).toNat
    omega
theorem w_h1 (hE : E.fn = fns) (hK : K15 E0 E) : VOkX (pts3 Tryd.prog) ct3 KL muL (some (muL E0 1 E)) E0 E zhx1 := by
  intro hf
  have hz : Facts E zF := fun q hq => hf q (.tail _ (.tail _ (.tail _ hq)))
  have hc : zhe16.den E ≠ 0 := eq_f.1 ((fat hf 1 rfl))
  obtain ⟨k, nw⟩ := new15 hK hz
  refine ⟨⟨_, rfl, .inl ⟨rfl, rfl⟩⟩, fun o => ⟨?_, fun b hb => ?_⟩⟩
  · obtain ⟨⟨h50, a5, _⟩, _⟩ := hK
    have hk := nw.hk
    have k60 := nw.k60
    refine ⟨h50, a5, ?_, ?_, cmp_new hE nw hc⟩
    · show 0 ≤ E.i 42 + 1 ∧ E.i 42 + 1 ≤ 60; omega
    · show (0 : Int) ≤ 0 ∧ 0 ≤ E.i 42 + 1; omega
  · obtain rfl := Option.some.inj hb
    have hk := nw.hk
    have k60 := nw.k60
    show (E.i 42 + 1 - 0).toNat < 1000 + (E.i 52).toNat
    omega
theorem w_h2 (hE : E.fn = fns) (hK : K15 E0 E) : VOkX (pts3 Tryd.prog) ct3 KL muL (some (muL E0 1 E)) E0 E zhx2 := by
  intro hf
  have hz : Facts E zF := fun q hq => hf q (.tail _ (.tail _ (.tail _ hq)))
  have hc : zhe16.den E ≠ 0 := eq_f.1 ((fat hf 1 rfl))
  have hd := (fat hf 0 rfl)
  obtain ⟨k, nw⟩ := new15 hK hz
  have hx := XL_new nw.hk
  have : scrOk (E.i 41).toNat (s0L E) (XL E) (k + 1) := nw.run.scr_err nw.k60 (by rw [hx]; exact nw.ok) (by rw [hx]; exact nw.lt) (by rw [hx]; exact nw.at0) (by rw [← nw.code hE]; exact hc)
  have e : (zhe0.den E).toNat = k + 1 := by
    show (E.i 42 + 1).toNat = _; have := nw.hk; omega
  have ht := (g0L hE zhe26 zhe0).2 (by rw [e]; exact this)
  rw [ht] at hd; cases hd
theorem w_h9 (hE : E.fn = fns) (hK : K15 E0 E) : VOkX (pts3 Tryd.prog) ct3 KL muL (some (muL E0 1 E)) E0 E zhx9 := by
  intro hf
  have hz : Facts E zF := fun q hq => hf q (.tail _ hq)
  have hd := (fat hf 0 rfl)
  obtain ⟨k, nw⟩ := new15 hK hz
  have g := nw.run.g k (Nat.le_refl _)
  have : ok7 (E.i 41).toNat (sE E) (xL E) := same_ok7 nw.same (ok7_of g nw.ok (by have := nw.k60; omega) nw.lt nw.at0)
  rw [(g3L hE).2 this] at hd; cases hd
theorem w_h10 (hK : K15 E0 E) : VOkX (pts3 Tryd.prog) ct3 KL muL (some (muL E0 1 E)) E0 E zhx10 := by
  intro hf
  have b0 : 0 ≤ E.i 1000 := le_t.1 ((fat hf 27 rfl))
  have b1 : E.i 1000 ≤ 255 := le_t.1 ((fat hf 28 rfl))
  have l1 : E.i 1009 ≤ E.i 1002 := le_t.1 ((fat hf 17 rfl))
  have l2 : E.i 1002 ≤ E.i 52 := le_t.1 ((fat hf 37 rfl))
  have l4 : 0 < E.i 52 := lt_t.1 ((fat hf 39 rfl))
  have m0 : 0 ≤ E.i 1009 := le_t.1 ((fat hf 11 rfl))
  have m1 : 0 ≤ E.i 1008 := le_t.1 ((fat hf 9 rfl))
  have m2 : E.i 1008 ≤ 4294967296 := le_t.1 ((fat hf 10 rfl))
  have m3 : 0 ≤ E.i 1010 := le_t.1 ((fat hf 13 rfl))
  have m4 : E.i 1010 ≤ 9223372036854775807 := le_t.1 ((fat hf 14 rfl))
  have m5 : E.i 1009 ≤ E.i 1010 := le_t.1 ((fat hf 15 rfl))
  have m6 : E.i 1008 + E.i 1009 ≤ E.i 50 := le_t.1 ((fat hf 16 rfl))
  have l3 := imp_f.1 ((fat hf 38 rfl))
  have l5 : E.i 1002 < E.i 52 := lt_t.1 (l3 (lt_t.2 l4))
  refine ⟨⟨_, rfl, .inr ⟨rfl, rfl⟩⟩, fun o => ⟨?_, fun b hb => ?_⟩⟩
  · obtain ⟨⟨h50, a5, o01, l0', c01, lc', ol', L⟩, cn, n41, hB, k, hk, k60, run, same, hW, lt, t0, t1⟩ := hK
    refine ⟨⟨h50, a5, ⟨m1, m2⟩, m0, ⟨m3, m4⟩, m5, m6, L⟩, cn, n41, hB, k, hk, k60, run, same, hW, ?_, ?_, ?_⟩
    · show lastT (E.a 6) k ≤ E.i 64 + E.i 1000 * 1000000; omega
    · show 0 ≤ E.i 64 + E.i 1000 * 1000000; omega
    · show E.i 64 + E.i 1000 * 1000000 ≤ 1 + 255000000 * (E.i 50 - E.i 1009); omega
  · obtain rfl := Option.some.inj hb
    show 1000 + (E.i 1009).toNat < 1000 + (E.i 52).toNat
    omega
theorem w_h11 (hE : E.fn = fns) (hK : K15 E0 E) : VOkX (pts3 Tryd.prog) ct3 KL muL (some (muL E0 1 E)) E0 E zhx11 := by
  intro hf
  obtain ⟨⟨h50, a5, o01, l0', c01, lc', ol', L⟩, cn, n41, hB, k, hk, k60, run, same, hW, lt, t0, t1⟩ := hK
  refine ⟨⟨_, rfl, .inl ⟨rfl, rfl⟩⟩, fun o => ⟨?_, fun b hb => ?_⟩⟩
  · refine ⟨h50, a5, ?_, ?_, ?_⟩
    · show 0 ≤ E.i 42 ∧ E.i 42 ≤ 60; omega
    · show (0 : Int) ≤ 0 ∧ 0 ≤ E.i 42; omega
    · have c := cmp_run run hW (G := zhe46.den E) (fun j _ => a45 hE (.v 6) j)
      rw [← hk] at c; exact c
  · obtain rfl := Option.some.inj hb
    show (E.i 42 - 0).toNat < 1000 + (E.i 52).toNat
    omega
theorem w_h13 (hE : E.fn = fns) (hK : K15 E0 E) : VOkX (pts3 Tryd.prog) ct3 KL muL (some (muL E0 1 E)) E0 E zhx13 := by
  intro hf
  obtain ⟨⟨h50, a5, o01, l0', c01, lc', ol', L⟩, cn, n41, hB, k, hk, k60, run, same, hW, lt, t0, t1⟩ := hK
  refine ⟨⟨_, rfl, .inl ⟨rfl, rfl⟩⟩, fun o => ⟨?_, fun b hb => ?_⟩⟩
  · refine ⟨h50, a5, ?_, ?_, ?_⟩
    · show 0 ≤ E.i 42 ∧ E.i 42 ≤ 60; omega
    · show (0 : Int) ≤ 0 ∧ 0 ≤ E.i 42; omega
    · have c := cmp_run run hW (G := zhe46.den E) (fun j _ => a45 hE (.v 6) j)
      rw [← hk] at c; exact c
  · obtain rfl := Option.some.inj hb
    show (E.i 42 - 0).toNat < 1000 + (E.i 52).toNat
    omega
theorem w_h12 (hE : E.fn = fns) (hK : K15 E0 E) : VOkX (pts3 Tryd.prog) ct3 KL muL (some (muL E0 1 E)) E0 E zhx12 := by
  intro hf
  have hd := (fat hf 0 rfl)
  obtain ⟨_, _, _, _, k, hk, k60, run, _⟩ := hK
  have ht := (g0L hE (.v 6) (.v 42)).2 (by
    rw [d_v, show (E.i 42).toNat = k by omega]; exact run.scr k60)
  rw [ht] at hd; cases hd
theorem w_h14 (hE : E.fn = fns) (hK : K15 E0 E) : VOkX (pts3 Tryd.prog) ct3 KL muL (some (muL E0 1 E)) E0 E zhx14 := by
  intro hf
  have hd := (fat hf 0 rfl)
  obtain ⟨_, _, _, _, k, hk, k60, run, _⟩ := hK
  have ht := (g0L hE (.v 6) (.v 42)).2 (by
    rw [d_v, show (E.i 42).toNat = k by omega]; exact run.scr k60)
  rw [ht] at hd; cases hd
theorem rd_c (a : Nat) (h : 0 ≤ E.i 44) (c : Nat) : (SE.rd (.v a) (.add (.mul (.v 44) (.c 8)) (.c c))).den E = E.a a (8 * (E.i 44).toNat + c) := by
  rw [d_rd, d_av, d_add, d_mul, d_v, d_c, d_c, show (E.i 44 * 8 + (c : Int)).toNat = 8 * (E.i 44).toNat + c by omega]
theorem rd_0 (a : Nat) (h : 0 ≤ E.i 44) : (SE.rd (.v a) (.mul (.v 44) (.c 8))).den E = E.a a (8 * (E.i 44).toNat) := by
  rw [d_rd, d_av, d_mul, d_v, d_c, show (E.i 44 * 8).toNat = 8 * (E.i 44).toNat by omega]
theorem go26 (hK : K26 E0 E) (hlt : E.i 44 < E.i 42) (o : Nat → Value) : K26 E0 (E.put [(50, (.v 50)), (44, zie0), (42, (.v 42))] [] [(8, (.v 8)), (7, (.v 7)), (5, (.v 5))] o) ∧ ∀ b, some (muL E0 2 E) = some b → muL E0 2 (E.put [(50, (.v 50)), (44, zie0), (42, (.v 42))] [] [(8, (.v 8)), (7, (.v 7)), (5, (.v 5))] o) < b := by
  obtain ⟨h50, a5, h42, h44, hc⟩ := hK
  refine ⟨⟨h50, a5, h42, by show 0 ≤ E.i 44 + 1 ∧ E.i 44 + 1 ≤ E.i 42; omega, hc⟩, fun b hb => ?_⟩
  obtain rfl := Option.some.inj hb
  show (E.i 42 - (E.i 44 + 1)).toNat < (E.i 42 - E.i 44).toNat
  omega
theorem wi0 (hK : K26 E0 E) : VOkX (pts3 Tryd.prog) ct3 KL muL (some (muL E0 2 E)) E0 E zix0 := by
  intro hf
  have hlt : E.i 44 < E.i 42 := lt_t.1 ((fat hf 2 rfl))
  exact ⟨⟨_, rfl, .inr ⟨rfl, rfl⟩⟩, fun o => go26 hK hlt o⟩
theorem wi2 (hK : K26 E0 E) : VOkX (pts3 Tryd.prog) ct3 KL muL (some (muL E0 2 E)) E0 E zix2 := by
  intro hf
  have hlt : E.i 44 < E.i 42 := lt_t.1 ((fat hf 2 rfl))
  exact ⟨⟨_, rfl, .inr ⟨rfl, rfl⟩⟩, fun o => go26 hK hlt o⟩
theorem wi1 (hK : K26 E0 E) : VOkX (pts3 Tryd.prog) ct3 KL muL (some (muL E0 2 E)) E0 E zix1 := by
  intro hf
  exfalso
  have hlt : E.i 44 < E.i 42 := lt_t.1 ((fat hf 2 rfl))
  have hz : zie3.den E = 0 := eq_t.1 ((fat hf 1 rfl))
  have hd := (fat hf 0 rfl)
  obtain ⟨h50, a5, h42, h44, hc⟩ := hK
  have c := (hc (E.i 44).toNat (by omega)).2 ((rd_0 7 h44.1).symm.trans hz)
  have q : ∀ c' : Nat, c' < 8 → (SE.rd (.v 8) (.add (.mul (.v 44) (.c 8)) (.c (c' : Int)))).den E = (SE.rd (.v 7) (.add (.mul (.v 44) (.c 8)) (.c (c' : Int)))).den E := fun c' hc' => by rw [rd_c 8 h44.1, rd_c 7 h44.1]; exact c c' hc'
  have q0 : zie2.den E = zie3.den E := by
    rw [show zie2.den E = _ from rd_0 8 h44.1, show zie3.den E = _ from rd_0 7 h44.1]; exact c 0 (by decide)
  have q1 : zie5.den E = zie6.den E := q 1 (by decide)
  have q2 : zie8.den E = zie9.den E := q 2 (by decide)
  have q3 : zie11.den E = zie12.den E := q 3 (by decide)
  have q4 : zie14.den E = zie15.den E := q 4 (by decide)
  have q5 : zie17.den E = zie18.den E := q 5 (by decide)
  have q6 : zie20.den E = zie21.den E := q 6 (by decide)
  have q7 : zie23.den E = zie24.den E := q 7 (by decide)
  simp only [SB.den, q0, q1, q2, q3, q4, q5, q6, q7, beq_self_eq_true, Bool.and_self] at hd
  cases hd
theorem wi3 (hK : K26 E0 E) : VOkX (pts3 Tryd.prog) ct3 KL muL (some (muL E0 2 E)) E0 E zix3 := by
  intro hf
  exfalso
  have hlt : E.i 44 < E.i 42 := lt_t.1 ((fat hf 2 rfl))
  have hz : zie3.den E ≠ 0 := eq_f.1 ((fat hf 1 rfl))
  have hd : zie2.den E ≠ zie3.den E := eq_f.1 ((fat hf 0 rfl))
  obtain ⟨h50, a5, h42, h44, hc⟩ := hK
  have e3 : zie3.den E = _ := rd_0 7 h44.1
  have e2 : zie2.den E = _ := rd_0 8 h44.1
  rw [e3] at hz
  rw [e2, e3] at hd
  exact hd ((hc (E.i 44).toNat (by omega)).1 hz)
theorem wi4 (hK : K26 E0 E) : VOkX (pts3 Tryd.prog) ct3 KL muL (some (muL E0 2 E)) E0 E zix4 := by
  intro hf
  obtain ⟨h50, a5, h42, h44, hc⟩ := hK
  refine ⟨rfl, E0, ?_, fun a ha => by obtain rfl := Option.some.inj ha; intro q hq; cases hq⟩
  exact List.forall_mem_cons.2 ⟨fun j _ => congrFun a5 j, List.forall_mem_cons.2 ⟨h50, fun q hq => by cases hq⟩⟩
theorem goodA_of {n k : Nat} {T : Int} {s : Fs} (g : GInv n k T s) (hk : k ≤ 61) (hT : T ≤ 1000000000000000000) (hs : ∀ i, i < n → toP (E.a 0) i = s.p i) : goodA (E.a 0) n := fun i hi => by
  rw [hs i hi]
  have gp := g.p i hi
  exact ⟨okP_of gp hk (by decide) hT, by have := gp.h.2; omega, gp.r.2, gp.s.2, gp.fin, gp.gone⟩
theorem ct3_ok : CtOk Tryd.prog fns ct3 := by
  refine ct_of_ptsX (p := prm3 Tryd.prog) (pts := pts3 Tryd.prog) (n := 600) (c0 := enterD (prm3 Tryd.prog) ct3) (fun E hE => prm3_ok E hE) rfl (by intro q hq; cases hq) Tryd.func3 (by kernel_rfl) ?_ KL muL zfls zfrun ?_ ?_
  · intro t ht
    simp only [pts3, List.mem_cons, List.not_mem_nil, or_false] at ht
    rcases ht with rfl | rfl | rfl
    · exact ⟨by kernel_rfl, by decide⟩
    · exact ⟨by kernel_rfl, by decide⟩
    · exact ⟨by kernel_rfl, by decide⟩
  · intro E0 hE hF
    simp only [ct3, List.cons_append, List.nil_append, facts_cons, facts_nil, le_t, d_c, d_v, and_true] at hF
    refine ⟨noFacts (by simp [ct3]), fun E hag _ x hx => ?_⟩
    unfold zfls at hx
    simp only [List.mem_cons, List.not_mem_nil, or_false] at hx
    rcases hx with rfl | rfl | rfl | rfl
    · intro hf
      refine ⟨rfl, E0, ?_, fun a ha => by obtain rfl := Option.some.inj ha; intro q hq; cases hq⟩
      exact List.forall_mem_cons.2 ⟨fun j _ => congrFun (hag.a 5 (by decide)) j, List.forall_mem_cons.2 ⟨hag.i 50 (by decide), fun q hq => by cases hq⟩⟩
    · exact w_f1 ⟨hF.1, hF.2.1, hF.2.2.1⟩ hag
    · intro hf
      have h := (fat hf 0 rfl)
      rw [le_f] at h; exact absurd h (Int.lt_irrefl _)
    · intro hf
      have h := (fat hf 0 rfl)
      rw [le_f, d_v, d_c, hag.i 53 (by decide)] at h; omega
  · intro k t ht
    have hk : k = 0 ∨ k = 1 ∨ k = 2 := by
      have := (List.getElem?_eq_some_iff.1 ht).1
      simp [pts3] at this; omega
    rcases hk with rfl | rfl | rfl
    · refine ⟨zgls, by rw [← ptD_some ht ct3.g]; exact zgrun, fun E0 E hE0 hE hF0 hI => ?_⟩
      have hI : K8 E0 E := hI
      simp only [ct3, List.cons_append, List.nil_append, facts_cons, facts_nil, le_t, d_c, d_v, and_true, g1_den hE0] at hF0
      refine ⟨?_, fun E' hag _ x hx => ?_⟩
      · obtain rfl := Option.some.inj ht
        obtain ⟨⟨h50, a5, o01, l0, c01, lc, ol, L⟩, ⟨k0, k1, k2⟩, n43, n41, hB⟩ := hI
        simp only [pt8', codF, cnF, bd, List.cons_append, List.nil_append, facts_cons, facts_nil, le_t, d_c, d_v, d_add, and_true, g1_den hE]
        rw [h50, a5]
        rw [h50] at ol L
        exact ⟨hF0.1, by omega, o01.1, o01.2, l0, by omega, c01.1, c01.2, lc, ol, hF0.2.2.2, k0.1, k0.2, k1.1, k1.2, k2.1, k2.2, n43.1, n43.2, n41.1, by omega⟩
      · unfold zgls at hx
        simp only [List.mem_cons, List.not_mem_nil, or_false] at hx
        have hm : muL E0 0 E' = muL E0 0 E := by
          show 10000000000 + (E'.i 43 - E'.i 41).toNat = 10000000000 + (E.i 43 - E.i 41).toNat
          rw [hag.i 43 (by decide), hag.i 41 (by decide)]
        rw [← hm]
        rcases hx with rfl | rfl
        · exact w_g0 (K8_ag hag hI)
        · exact w_g1 (hag.fn.trans hE) (K8_ag hag hI)
    · refine ⟨zhls, by rw [← ptD_some ht ct3.g]; exact zhrun, fun E0 E hE0 hE hF0 hI => ?_⟩
      have hI : K15 E0 E := hI
      simp only [ct3, List.cons_append, List.nil_append, facts_cons, facts_nil, le_t, d_c, d_v, and_true, g1_den hE0] at hF0
      refine ⟨?_, fun E' hag _ x hx => ?_⟩
      · obtain rfl := Option.some.inj ht
        obtain ⟨⟨h50, a5, o01, l0, c01, lc, ol, L⟩, ⟨k0, k1, k2⟩, n41, hB, k, hk, k60, run, same, hW, lt, t0, t1⟩ := hI
        have g := run.g k (Nat.le_refl _)
        have hl := run.lt k (Nat.le_refl _)
        have gA := goodA_of (E := E) g (by omega) hl fun i hi => (same.p i hi)
        have gc := g.c
        rw [← same.c] at gc
        obtain ⟨c0, chw, cr, cw, cz, cm, ctt, cf, cs, cl, cb, _, _⟩ := gc
        have c0 : 0 ≤ E.i 0 ∧ E.i 0 ≤ 510 * k := c0
        have chw : E.i 0 ≤ E.i 2 := chw
        have cr : 0 ≤ E.i 1 ∧ E.i 1 ≤ E.i 0 := cr
        have cw : E.i 2 ≤ E.i 1 + 8192 := cw
        have cs : 0 ≤ E.i 7 ∧ E.i 7 ≤ E.i 8 := cs
        have cl : E.i 8 ≤ 1000000 := cl
        simp only [pt15', codF, stF, bd, List.cons_append, List.nil_append, facts_cons, facts_nil, le_t, d_c, d_v, d_add, and_true, g1_den hE, g2_den6 hE]
        rw [h50, a5]
        rw [h50] at ol L t1
        exact ⟨hF0.1, by omega, o01.1, o01.2, l0, by omega, c01.1, c01.2, lc, ol, hF0.2.2.2, k2.1, k2.2, n41.1, n41.2, by omega, by omega, t0, by omega, c0.1, by omega, by omega, by omega, cs.1, by omega, by omega, cl, cs.2, chw, gA⟩
      · unfold zhls at hx
        simp only [List.mem_cons, List.not_mem_nil, or_false] at hx
        have hm : muL E0 1 E' = muL E0 1 E := by
          show 1000 + (E'.i 52).toNat = 1000 + (E.i 52).toNat
          rw [hag.i 52 (by decide)]
        rw [← hm]
        have hE' := hag.fn.trans hE
        have hI' := K15_ag hag hI
        rcases hx with rfl | rfl | rfl | rfl | rfl | rfl | rfl | rfl | rfl | rfl | rfl | rfl | rfl | rfl | rfl
        all_goals first | exact w_h0 hE' hI' | exact w_h1 hE' hI' | exact w_h2 hE' hI' | exact w_h9 hE' hI' | exact w_h10 hI' | exact w_h11 hE' hI' | exact w_h12 hE' hI' | exact w_h13 hE' hI' | exact w_h14 hE' hI'
    · refine ⟨zils, by rw [← ptD_some ht ct3.g]; exact zirun, fun E0 E hE0 hE hF0 hI => ?_⟩
      have hI : K26 E0 E := hI
      refine ⟨?_, fun E' hag _ x hx => ?_⟩
      · obtain rfl := Option.some.inj ht
        obtain ⟨h50, a5, h42, h44, hc⟩ := hI
        simp only [pt26', bd, List.cons_append, List.nil_append, facts_cons, facts_nil, le_t, d_c, d_v, and_true]
        exact ⟨h42.1, h42.2, h44.1, by omega⟩
      · unfold zils at hx
        simp only [List.mem_cons, List.not_mem_nil, or_false] at hx
        have hm : muL E0 2 E' = muL E0 2 E := by
          show (E'.i 42 - E'.i 44).toNat = (E.i 42 - E.i 44).toNat
          rw [hag.i 42 (by decide), hag.i 44 (by decide)]
        rw [← hm]
        have hI' := K26_ag hag hI
        rcases hx with rfl | rfl | rfl | rfl | rfl
        · exact wi0 hI'
        · exact wi1 hI'
        · exact wi2 hI'
        · exact wi3 hI'
        · exact wi4 hI'
def Bn (j : Nat) : Int := [4, 4, 0].getD j 0
theorem Bn_den (E : Env) : zje0.den E = Bn := by
  funext j
  match j with
  | 0 => rfl | 1 => rfl | 2 => rfl
  | n + 3 => rfl
theorem scr_n (X : Nat → Int) : scrOk 1 (st0 8 8 0 Bn) X 0 := fun k hk => by
  obtain rfl : k = 0 := by omega
  refine ⟨?_, fun h => by omega⟩
  have : Good 1 (st0 8 8 0 Bn) := by decide +kernel
  exact this
theorem prm3n_ok (E : Env) (hE : E.fn = fns) : PrmOk E (prm3n Tryd.prog) where
  ct := by
    intro c hc
    simp only [prm3n, List.mem_cons, List.not_mem_nil, or_false] at hc
    rw [hE]
    rcases hc with rfl | rfl | rfl | rfl
    · exact ct9_ok
    · exact ct10_ok
    · exact ct8g_ok
    · exact ct11_ok
  mix := by kernel_rfl
  okf := okf_call
  body := okf_body
  mts := by intro x hx; cases hx
  dfr := by intro x hx; cases hx
  dfk := by intro x hx; cases hx
theorem ct3n_ok : CtOk Tryd.prog fns ct3n := by
  refine ct_of_pts (p := prm3n Tryd.prog) (pts := []) (n := 600) (c0 := enterD (prm3n Tryd.prog) ct3n) (fun E hE => prm3n_ok E hE) rfl (by intro q hq; cases hq) Tryd.func3 (by kernel_rfl) (by intro t ht; cases ht) (fun _ _ _ => True) (fun _ _ _ => 0) zjls (by kernel_rfl) ?_ (by intro i t ht; simp at ht)
  intro E hE hF
  refine ⟨noFacts (by simp [ct3n]), fun x hx => ?_⟩
  unfold zjls at hx
  simp only [List.mem_cons, List.not_mem_nil, or_false] at hx
  rcases hx with rfl | rfl
  · intro hf
    exact ⟨rfl, fun q hq => by cases hq⟩
  · intro hf
    have hd := (fat hf 0 rfl)
    have ht : (SB.ap 0 (.i (.c 8) (.i (.c 8) (.i (.c 0) (.a zje0 (.i (.c 1) (.a (.v 0) (.i (.c 0) .nil)))))))).den E = true := by
      show E.fn.g 0 [.i 8, .i 8, .i 0, .a (zje0.den E), .i 1, .a ((AE.v 0).den E), .i 0] = true
      rw [hE, Bn_den]
      exact (@decide_eq_true_iff _ (Classical.propDecidable _)).2 (scr_n _)
    rw [ht] at hd; cases hd
end Go.Proofs.YtpjifimjoinnnaaDoor
