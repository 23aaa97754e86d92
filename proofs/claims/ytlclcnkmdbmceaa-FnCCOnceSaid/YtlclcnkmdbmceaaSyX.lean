/- Floating point numbers that are rounded: what a product with a constant comes to. -/
import Derived.Test.YtlclcnkmdbmceaaSyP
set_option linter.unusedVariables false
set_option linter.unusedSimpArgs false
namespace Go.Sy
open Ieee

/-- Rounded to the nearest: off by half a unit at most. -/
theorem cut_even_bd (n d : Nat) (hd : d ≤ n.log2) : 2 * (Toward.even.cut false n d * 2 ^ d) ≤ 2 * n + 2 ^ d ∧ n / 2 ^ d ≤ Toward.even.cut false n d ∧ Toward.even.cut false n d ≤ n / 2 ^ d + 1 := by
  unfold Toward.cut
  have hm : min d (n.log2 + 2) = d := by omega
  simp only [hm, Nat.one_shiftLeft]
  have hp : 0 < 2 ^ d := Nat.pow_pos (by omega)
  have h1 := Nat.div_add_mod n (2 ^ d)
  have h2 := Nat.mod_lt n hp
  generalize 2 ^ d = g at *
  generalize n / g = q at *
  generalize n % g = r at *
  by_cases hc : (decide (g < 2 * r) || g == 2 * r && q % 2 == 1) = true
  · have hr : g ≤ 2 * r := by
      simp only [Bool.or_eq_true, decide_eq_true_eq, Bool.and_eq_true, beq_iff_eq] at hc
      omega
    rw [hc]
    simp only [Bool.toNat_true, Nat.add_mul, Nat.one_mul]
    have : q * g = g * q := Nat.mul_comm _ _
    omega
  · have hc' : (decide (g < 2 * r) || g == 2 * r && q % 2 == 1) = false := by simpa using hc
    rw [hc']
    simp only [Bool.toNat_false, Nat.add_zero]
    have : q * g = g * q := Nat.mul_comm _ _
    omega
/-- What is read of a rung. -/
theorem read_rung (f : Format) (q kept : Nat) (h1 : 2 ^ f.fractionBits ≤ kept) (h2 : kept ≤ 2 * 2 ^ f.fractionBits) (hq : q + 3 < 2 ^ f.exponentBits - 1) :
    ∃ mag i, f.read (min (q * f.binade + kept) f.infRung) = .number false mag i ∧ ((mag = kept ∧ i = f.leastPlace + q) ∨ (kept = 2 * mag ∧ i = f.leastPlace + (q + 1 : Nat))) := by
  have hb : f.binade = 2 ^ f.fractionBits := rfl
  have hbp : 0 < f.binade := Nat.pow_pos (by omega)
  have hsw : f.signWeight = 2 ^ f.exponentBits * f.binade := by unfold Format.signWeight Format.binade; rw [Nat.pow_add]
  obtain ⟨t, r, hk, hr, ht⟩ : ∃ t r, q * f.binade + kept = (t + 1) * f.binade + r ∧ r < f.binade ∧ ((t = q ∧ kept = f.binade + r) ∨ (t = q + 1 ∧ r = 0 ∧ kept = 2 * f.binade)) := by
    by_cases h : kept = 2 * f.binade
    · exact ⟨q + 1, 0, by rw [h, Nat.add_mul, Nat.add_mul]; omega, hbp, .inr ⟨rfl, rfl, h⟩⟩
    · exact ⟨q, kept - f.binade, by rw [Nat.add_mul]; omega, by omega, .inl ⟨rfl, by omega⟩⟩
  have htq : t ≤ q + 1 := by rcases ht with h | h <;> omega
  have hinf : (t + 1) * f.binade + r < f.infRung := by
    unfold Format.infRung
    calc (t + 1) * f.binade + r < (t + 1) * f.binade + f.binade := by omega
      _ = (t + 2) * f.binade := by rw [← Nat.succ_mul]
      _ ≤ (2 ^ f.exponentBits - 1) * f.binade := Nat.mul_le_mul_right _ (by omega)
  have hlt : (t + 1) * f.binade + r < f.signWeight := by
    refine Nat.lt_of_lt_of_le hinf ?_
    rw [hsw]; unfold Format.infRung; exact Nat.mul_le_mul_right _ (by omega)
  rw [hk, Nat.min_eq_left (Nat.le_of_lt hinf)]
  have a1 : ((t + 1) * f.binade + r) / f.signWeight = 0 := Nat.div_eq_of_lt hlt
  have a2 : ((t + 1) * f.binade + r) % f.signWeight = (t + 1) * f.binade + r := Nat.mod_eq_of_lt hlt
  have a3 : ¬ ((t + 1) * f.binade + r < f.binade) := by
    have : 1 * f.binade ≤ (t + 1) * f.binade := Nat.mul_le_mul_right _ (by omega)
    omega
  have a4 : ((t + 1) * f.binade + r) % f.binade = r := by
    rw [Nat.mul_comm, Nat.mul_add_mod]; exact Nat.mod_eq_of_lt hr
  have a5 : ((t + 1) * f.binade + r) / f.binade = t + 1 := by
    rw [Nat.mul_comm, Nat.mul_add_div hbp, Nat.div_eq_of_lt hr]
  refine ⟨f.binade + r, f.leastPlace + (t : Nat), ?_, ?_⟩
  · unfold Format.read
    simp only [a1, a2, a3, hinf, if_false, if_true, a4, a5]
    rfl
  · rcases ht with ⟨rfl, h⟩ | ⟨rfl, rfl, h⟩
    · exact .inl ⟨h.symm, rfl⟩
    · exact .inr ⟨by omega, rfl⟩
theorem toInt_num (m : Nat) (i : Int) (hi : i ≤ 0) : (Datum.number false m i).toInt .zero = some ((m / 2 ^ (-i).toNat : Nat) : Int) := by
  simp only [Datum.toInt, Datum.integral, signed, Bool.false_eq_true, if_false, Nat.shiftLeft_zero]
  congr 2
  have e0 : i.toNat = 0 := by omega
  rw [e0, Nat.shiftLeft_zero]
  unfold Toward.cut
  simp only [Nat.one_shiftLeft, Bool.toNat_false, Nat.add_zero]
  rcases Nat.le_total (-i).toNat (m.log2 + 2) with h | h
  · rw [Nat.min_eq_left h]
  · rw [Nat.min_eq_right h]
    have h5 : m < 2 ^ (m.log2 + 2) := Nat.lt_of_lt_of_le Nat.lt_log2_self (Nat.pow_le_pow_right (by omega) (by omega))
    rw [Nat.div_eq_of_lt h5, Nat.div_eq_of_lt (Nat.lt_of_lt_of_le h5 (Nat.pow_le_pow_right (by omega) h))]
/-- A whole number that is exact times a constant below 1, made whole again. -/
theorem mul_const (f : Format) (hE : 2 ≤ f.exponentBits) (hfb : f.fractionBits < 2 ^ (f.exponentBits - 1)) (c m j w : Nat) (hc : 0 < c) (hc1 : c < 2 ^ f.fractionBits) (hw : f.read w = .number false m (-(j : Int)))
    (hm0 : 2 ^ f.fractionBits ≤ m) (hm : m < 2 ^ j) (hj : f.leastPlace ≤ -(j : Int)) (hbig : (-f.leastPlace).toNat + 3 < 2 ^ f.exponentBits - 1) :
    ∃ r n, f.mul (f.nearest false c 0) w = some r ∧ (f.read r).toInt .zero = some (n : Nat) ∧ n * 2 ^ j * (2 * 2 ^ f.fractionBits) ≤ c * m * (2 * 2 ^ f.fractionBits + 1) := by
  obtain ⟨a, i, h1, h2, h3, h4⟩ := read_nearest f hE hfb c 0 (by omega) (by
    have : f.leastPlace + f.fractionBits ≤ 0 := by
      have hjj : f.fractionBits ≤ j := by
        rcases Nat.lt_or_ge j f.fractionBits with h | h
        · have := Nat.pow_le_pow_right (n := 2) (by omega) (Nat.le_of_lt h); omega
        · exact h
      omega
    exact this) (Int.le_refl _)
  obtain ⟨s, hs⟩ : ∃ s : Nat, i = -(s : Int) := ⟨(-i).toNat, by omega⟩
  subst hs
  have hs0 : ((0 : Int) - -(s : Int)).toNat = s := by omega
  rw [hs0] at h3
  obtain ⟨M, hM⟩ : ∃ M, M = a * m := ⟨_, rfl⟩
  have hMe : M = c * m * 2 ^ s := by rw [hM, h3]; simp only [Nat.mul_assoc, Nat.mul_comm, Nat.mul_left_comm]
  have hsp : 0 < 2 ^ s := Nat.pow_pos (by omega)
  have hMlo : 2 ^ (f.fractionBits + s) ≤ M := by
    rw [hMe, Nat.pow_add]
    refine Nat.mul_le_mul_right _ ?_
    calc 2 ^ f.fractionBits ≤ 1 * m := by omega
      _ ≤ c * m := Nat.mul_le_mul_right _ hc
  have hM0 : M ≠ 0 := by have := Nat.pow_pos (a := 2) (n := f.fractionBits + s) (by omega); omega
  have hMhi : M < 2 ^ (f.fractionBits + j + s) := by
    rw [hMe, Nat.pow_add]
    refine Nat.mul_lt_mul_of_pos_right ?_ hsp
    rw [Nat.pow_add]
    exact Nat.mul_lt_mul'' hc1 hm
  have hl0 : f.fractionBits + s ≤ M.log2 := (Nat.le_log2 hM0).2 hMlo
  have hl1 : M.log2 < f.fractionBits + j + s := (Nat.log2_lt hM0).2 hMhi
  obtain ⟨D, hD⟩ : ∃ D, D = M.log2 - f.fractionBits := ⟨_, rfl⟩
  have hp : (-(s : Int)) + -(j : Int) = -((s + j : Nat) : Int) := by omega
  have hnear : f.nearest false M (-((s + j : Nat) : Int)) = min (((D : Int) - (s + j : Nat) - f.leastPlace).toNat * f.binade + Toward.even.cut false M D) f.infRung := by
    unfold Format.nearest
    rw [if_neg hM0]
    have hlast : max (-((s + j : Nat) : Int) + (M.log2 : Int) - f.fractionBits) f.leastPlace = (D : Int) - (s + j : Nat) := by omega
    simp only [hlast]
    have e1 : (-((s + j : Nat) : Int) - ((D : Int) - (s + j : Nat))).toNat = 0 := by omega
    have e2 : ((D : Int) - (s + j : Nat) - -((s + j : Nat) : Int)).toNat = D := by omega
    rw [e1, e2, Nat.shiftLeft_zero]; rfl
  obtain ⟨k1, k2, k3⟩ := cut_even_bd M D (by omega)
  obtain ⟨K, hK⟩ : ∃ K, K = Toward.even.cut false M D := ⟨_, rfl⟩
  rw [← hK] at k1 k2 k3 hnear
  have hDp : 0 < 2 ^ D := Nat.pow_pos (by omega)
  have hMD : 2 ^ f.fractionBits * 2 ^ D ≤ M := by
    rw [← Nat.pow_add, show f.fractionBits + D = M.log2 by omega]; exact Nat.log2_self_le hM0
  have hMD2 : M < 2 * 2 ^ f.fractionBits * 2 ^ D := by
    rw [show 2 * 2 ^ f.fractionBits = 2 ^ (f.fractionBits + 1) by rw [Nat.pow_succ]; omega, ← Nat.pow_add, show f.fractionBits + 1 + D = M.log2 + 1 by omega]
    exact Nat.lt_log2_self
  have hK1 : 2 ^ f.fractionBits ≤ K := Nat.le_trans ((Nat.le_div_iff_mul_le hDp).2 hMD) k2
  have hK2 : K ≤ 2 * 2 ^ f.fractionBits := by
    have := (Nat.div_lt_iff_lt_mul hDp).2 hMD2
    omega
  obtain ⟨mag, i', r1, r2⟩ := read_rung f ((D : Int) - (s + j : Nat) - f.leastPlace).toNat K hK1 hK2 (by omega)
  refine ⟨f.nearest false M (-((s + j : Nat) : Int)), mag / 2 ^ (-i').toNat, ?_, ?_, ?_⟩
  · unfold Format.mul
    rw [h1, hw]
    simp only [Datum.product, Option.map_some, Format.write, Bool.xor_self, hp, hM]
  · rw [hnear, r1]
    exact toInt_num mag i' (by rcases r2 with ⟨_, h⟩ | ⟨_, h⟩ <;> omega)
  · -- the bound
    have hfin : mag / 2 ^ (-i').toNat * 2 ^ (s + j) ≤ K * 2 ^ D := by
      rcases r2 with ⟨e1, e2⟩ | ⟨e1, e2⟩
      · have e3 : (-i').toNat + D = s + j := by omega
        rw [← e3, Nat.pow_add, ← Nat.mul_assoc, e1]
        exact Nat.mul_le_mul_right _ (Nat.div_mul_le_self _ _)
      · have e3 : (-i').toNat + (D + 1) = s + j := by omega
        rw [← e3, Nat.pow_add, ← Nat.mul_assoc, e1, Nat.pow_succ]
        have := Nat.mul_le_mul_right (2 ^ D * 2) (Nat.div_mul_le_self mag (2 ^ (-i').toNat))
        have e4 : mag * (2 ^ D * 2) = 2 * mag * 2 ^ D := by simp only [Nat.mul_assoc, Nat.mul_comm, Nat.mul_left_comm]
        omega
    generalize mag / 2 ^ (-i').toNat = n at *
    have h5 : n * 2 ^ (s + j) * (2 * 2 ^ f.fractionBits) ≤ M * (2 * 2 ^ f.fractionBits + 1) := by
      calc n * 2 ^ (s + j) * (2 * 2 ^ f.fractionBits) ≤ K * 2 ^ D * (2 * 2 ^ f.fractionBits) := Nat.mul_le_mul_right _ hfin
        _ = 2 * (K * 2 ^ D) * 2 ^ f.fractionBits := by simp only [Nat.mul_assoc, Nat.mul_comm, Nat.mul_left_comm]
        _ ≤ (2 * M + 2 ^ D) * 2 ^ f.fractionBits := Nat.mul_le_mul_right _ k1
        _ = M * (2 * 2 ^ f.fractionBits) + 2 ^ f.fractionBits * 2 ^ D := by rw [Nat.add_mul]; congr 1 <;> simp only [Nat.mul_assoc, Nat.mul_comm, Nat.mul_left_comm]
        _ ≤ M * (2 * 2 ^ f.fractionBits) + M := Nat.add_le_add_left hMD _
        _ = M * (2 * 2 ^ f.fractionBits + 1) := by rw [Nat.mul_add, Nat.mul_one]
    rw [hMe] at h5
    have h6 : n * 2 ^ j * (2 * 2 ^ f.fractionBits) * 2 ^ s ≤ c * m * (2 * 2 ^ f.fractionBits + 1) * 2 ^ s := by
      calc n * 2 ^ j * (2 * 2 ^ f.fractionBits) * 2 ^ s = n * 2 ^ (s + j) * (2 * 2 ^ f.fractionBits) := by rw [Nat.pow_add]; simp only [Nat.mul_assoc, Nat.mul_comm, Nat.mul_left_comm]
        _ ≤ c * m * 2 ^ s * (2 * 2 ^ f.fractionBits + 1) := h5
        _ = _ := by simp only [Nat.mul_assoc, Nat.mul_comm, Nat.mul_left_comm]
    exact Nat.le_of_mul_le_mul_right h6 hsp
end Go.Sy
