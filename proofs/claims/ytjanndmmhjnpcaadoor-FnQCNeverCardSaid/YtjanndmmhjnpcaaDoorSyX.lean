/- Floating point numbers that are rounded: what a product with a constant comes to. -/
import Derived.Test.YtjanndmmhjnpcaaDoorSyP
set_option autoImplicit true
set_option relaxedAutoImplicit true
set_option linter.unusedVariables false
set_option linter.unusedSimpArgs false
namespace Go.Sy
open Ieee
theorem cut_even_bd (n d : Nat) (hd : d ≤ n.log2) : 2 * (Toward.even.cut false n d * 2 ^ d) ≤ 2 * n + 2 ^ d ∧ n / 2 ^ d ≤ Toward.even.cut false n d ∧ Toward.even.cut false n d ≤ n / 2 ^ d + 1 := by
  unfold Toward.cut
  have hm : min d (n.log2 + 2) = d := by omega
  simp only [hm, Nat.one_shiftLeft]
  have hp : 0 < 2 ^ d := Nat.pow_pos (by omega)
  have h1 := Nat.div_add_mod n (2 ^ d)
  have h2 := Nat.mod_lt n hp
  generalize 2 ^ d = g at *
  generalize n / g = q at *
  generalize n % g = r at *
  by_cases hc : (decide (g < 2 * r) || g == 2 * r && q % 2 == 1) = true
  · have hr : g ≤ 2 * r := by
      simp only [Bool.or_eq_true, decide_eq_true_eq, Bool.and_eq_true, beq_iff_eq] at hc
      omega
    rw [hc]
    simp only [Bool.toNat_true, Nat.add_mul, Nat.one_mul]
    have : q * g = g * q := Nat.mul_comm _ _
    omega
  · have hc' : (decide (g < 2 * r) || g == 2 * r && q % 2 == 1) = false := by simpa using hc
    rw [hc']
    simp only [Bool.toNat_false, Nat.add_zero]
    have : q * g = g * q := Nat.mul_comm _ _
    omega
end Go.Sy
