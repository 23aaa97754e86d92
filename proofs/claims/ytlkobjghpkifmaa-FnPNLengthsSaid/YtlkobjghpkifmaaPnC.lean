/- The contracts: a decoded packet number; how many bytes a header has. -/
import Derived.Test.YtlkobjghpkifmaaPnW
set_option linter.unusedVariables false
set_option linter.unusedSimpArgs false
namespace Go.Proofs.Ytlkobjghpkifmaa
open Go Go.Sx Go.RowKit
/-- The number: M = 2^(8 n) numbers share their last bytes. -/
def pnM (M l t : Int) : Int :=
  let e := l + 1
  let c := e - e % M + t
  if c ≤ e - M / 2 ∧ c < 4611686018427387904 - M then c + M else if e + M / 2 < c ∧ M ≤ c then c - M else c
def pn (n l t : Int) : Int := if n = 1 then pnM 256 l t else if n = 2 then pnM 65536 l t else if n = 3 then pnM 16777216 l t else pnM 4294967296 l t
def pnLen (n acked : Int) : Int :=
  let u := if acked = -1 then IntKind.i64.wrap (n + 1) else IntKind.i64.wrap (n - acked)
  if u < 32768 then 2 else if u < 8388608 then 3 else 4

theorem nat_high (j x : Nat) (hj : j ≤ 64) (hx : x < 2 ^ 64) : x &&& (2 ^ 64 - 2 ^ j) = x - x % 2 ^ j := by
  have h1 : (2 ^ 64 - 2 ^ j : Nat) = (2 ^ (64 - j) - 1) * 2 ^ j := by
    rw [Nat.sub_mul, ← Nat.pow_add, Nat.sub_add_cancel hj, Nat.one_mul]
  have h2 : x - x % 2 ^ j = x / 2 ^ j * 2 ^ j := by
    have := Nat.div_add_mod x (2 ^ j); rw [Nat.mul_comm] at this; omega
  rw [h1, h2, ← Nat.shiftLeft_eq, ← Nat.shiftLeft_eq, ← Nat.shiftRight_eq_div_pow]
  apply Nat.eq_of_testBit_eq
  intro i
  simp only [Nat.testBit_and, Nat.testBit_shiftLeft, Nat.testBit_shiftRight, Nat.testBit_two_pow_sub_one]
  by_cases h : i ≥ j
  · have e : j + (i - j) = i := by omega
    simp only [h, decide_true, Bool.true_and, e]
    by_cases h3 : i < 64
    · have : i - j < 64 - j := by omega
      simp [this]
    · have : x.testBit i = false := Nat.testBit_lt_two_pow (Nat.lt_of_lt_of_le hx (Nat.pow_le_pow_right (by omega) (by omega)))
      simp [this]
  · simp [h]
theorem ofInt_i64 (a : Nat) (ha : a < 18446744073709551616) : (BitVec.ofInt 64 (a : Int)).toNat = a := by
  simp [BitVec.toNat_ofInt]; omega
theorem and_high (j : Nat) (hj : j ≤ 63) (e m : Int) (hm : m = 2 ^ j) (h0 : 0 ≤ e) (h1 : e < 9223372036854775808) : Go.bits .and .i64 e (-m) = e - e % m := by
  obtain ⟨n, rfl⟩ := Int.eq_ofNat_of_zero_le h0
  subst hm
  unfold Go.bits
  have hp : (2 : Nat) ^ j ≤ 2 ^ 63 := Nat.pow_le_pow_right (by omega) hj
  have hp0 : 0 < (2 : Nat) ^ j := Nat.pow_pos (by omega)
  have hb : (BitVec.ofInt 64 (-(2 ^ j : Int))).toNat = 2 ^ 64 - 2 ^ j := by
    rw [BitVec.toNat_ofInt]
    have : ((2 : Int) ^ j) = ((2 ^ j : Nat) : Int) := by simp
    rw [this]; omega
  have hr : (BitVec.ofInt 64 (n : Int) &&& BitVec.ofInt 64 (-(2 ^ j : Int))).toNat = n - n % 2 ^ j := by
    rw [BitVec.toNat_and, hb, ofInt_i64 n (by omega)]; exact nat_high j n (by omega) (by omega)
  have e2 : ((n : Int) % (2 ^ j : Int)) = ((n % 2 ^ j : Nat) : Int) := by simp
  have h3 : n % 2 ^ j ≤ n := Nat.mod_le _ _
  have key : IntKind.i64.wrap (((BitVec.ofInt 64 (n : Int) &&& BitVec.ofInt 64 (-(2 ^ j : Int))).toNat : Nat) : Int) = (n : Int) - (n : Int) % (2 ^ j : Int) := by
    rw [hr, IntKind.wrap_i64, e2]
    omega
  exact key
theorem and_low (j : Nat) (hj : j ≤ 63) (e m : Int) (hm : m = 2 ^ j - 1) (h0 : 0 ≤ e) (h1 : e < 9223372036854775808) : Go.bits .and .i64 e m = e % (2 ^ j) := by
  obtain ⟨n, rfl⟩ := Int.eq_ofNat_of_zero_le h0
  subst hm
  unfold Go.bits
  have hp : (2 : Nat) ^ j ≤ 2 ^ 63 := Nat.pow_le_pow_right (by omega) hj
  have hp0 : 0 < (2 : Nat) ^ j := Nat.pow_pos (by omega)
  have hpc : ((2 : Int) ^ j) = ((2 ^ j : Nat) : Int) := by simp
  have hb : (BitVec.ofInt 64 ((2 ^ j : Int) - 1)).toNat = 2 ^ j - 1 := by
    rw [BitVec.toNat_ofInt, hpc]; omega
  have hr : (BitVec.ofInt 64 (n : Int) &&& BitVec.ofInt 64 ((2 ^ j : Int) - 1)).toNat = n % 2 ^ j := by
    rw [BitVec.toNat_and, hb, ofInt_i64 n (by omega), Nat.and_two_pow_sub_one_eq_mod]
  have h3 : n % 2 ^ j < 2 ^ j := Nat.mod_lt _ hp0
  have key : IntKind.i64.wrap (((BitVec.ofInt 64 (n : Int) &&& BitVec.ofInt 64 ((2 ^ j : Int) - 1)).toNat : Nat) : Int) = (n : Int) % (2 ^ j : Int) := by
    rw [hr, IntKind.wrap_i64, hpc]
    omega
  exact key
theorem or_low (j : Nat) (hj : j ≤ 63) (c t m : Int) (hm : m = 2 ^ j) (h0 : 0 ≤ c) (h1 : c < 9223372036854775808) (hc : c % m = 0) (ht : 0 ≤ t) (ht1 : t < m) (hs : c + t < 9223372036854775808) : Go.bits .or .i64 c t = c + t := by
  obtain ⟨n, rfl⟩ := Int.eq_ofNat_of_zero_le h0
  obtain ⟨x, rfl⟩ := Int.eq_ofNat_of_zero_le ht
  subst hm
  have hpc : ((2 : Int) ^ j) = ((2 ^ j : Nat) : Int) := by simp
  rw [hpc] at hc ht1
  have hx : x < 2 ^ j := by omega
  have hc' : n % 2 ^ j = 0 := by omega
  unfold Go.bits
  have hr : (BitVec.ofInt 64 (n : Int) ||| BitVec.ofInt 64 (x : Int)).toNat = n + x := by
    rw [BitVec.toNat_or, ofInt_i64 n (by omega), ofInt_i64 x (by omega)]; exact nat_join j n x hc' hx
  have key : IntKind.i64.wrap (((BitVec.ofInt 64 (n : Int) ||| BitVec.ofInt 64 (x : Int)).toNat : Nat) : Int) = (n : Int) + (x : Int) := by
    rw [hr, IntKind.wrap_i64]
    omega
  exact key
end Go.Proofs.Ytlkobjghpkifmaa
