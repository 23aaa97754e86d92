/- Floating point numbers that are exact: a whole number over a power of two. -/
import GoSem.Core.Float
set_option autoImplicit true
set_option relaxedAutoImplicit true
set_option linter.unusedVariables false
set_option linter.unusedSimpArgs false
namespace Go.Sy
open Ieee
theorem log2_mul_pow (m k : Nat) (hm : m ≠ 0) : (m * 2 ^ k).log2 = m.log2 + k := by
  induction k with
  | zero => simp
  | succ k ih =>
    have h : m * 2 ^ k ≠ 0 := Nat.mul_ne_zero hm (Nat.ne_of_gt (Nat.pow_pos (by omega)))
    rw [Nat.pow_succ, ← Nat.mul_assoc, Nat.mul_comm _ 2, Nat.log2_two_mul h, ih]; omega
theorem cut_exact (way : Toward) (n drop : Nat) (h : drop ≤ n.log2) (hn : n ≠ 0) (hd : 2 ^ drop ∣ n) : way.cut false n drop = n / 2 ^ drop := by
  unfold Toward.cut
  have hm : min drop (n.log2 + 2) = drop := by omega
  have hr : n % 2 ^ drop = 0 := Nat.mod_eq_zero_of_dvd hd
  have hp : 0 < 2 ^ drop := Nat.pow_pos (by omega)
  have hp' : (2 ^ drop : Nat) ≠ 0 := by omega
  simp only [hm, Nat.one_shiftLeft, hr]
  cases way <;> simp [hp, hp']
theorem cut_zero (way : Toward) (n : Nat) : way.cut false n 0 = n := by
  unfold Toward.cut
  have hm : min 0 (n.log2 + 2) = 0 := by omega
  simp only [hm]
  cases way <;> simp [Nat.mod_one]
theorem nearest_scale (f : Format) (m k : Nat) (place : Int) (hm : m < 2 ^ (f.fractionBits + 1)) (hp : f.leastPlace ≤ place + k) :
    f.nearest false (m * 2 ^ k) place = f.nearest false m (place + k) := by
  by_cases h0 : m = 0
  · subst h0; simp [Format.nearest]
  · have hpk : 0 < 2 ^ k := Nat.pow_pos (by omega)
    have hne : m * 2 ^ k ≠ 0 := Nat.mul_ne_zero h0 (by omega)
    have hL : m.log2 ≤ f.fractionBits := by
      have := (Nat.log2_lt h0).2 hm; omega
    unfold Format.nearest
    rw [if_neg hne, if_neg h0]
    rw [log2_mul_pow m k h0]
    have hlast : max (place + ((m.log2 + k : Nat) : Int) - f.fractionBits) f.leastPlace = max (place + k + (m.log2 : Int) - f.fractionBits) f.leastPlace := by
      congr 1; push_cast; omega
    simp only [hlast]
    obtain ⟨last, hl⟩ : ∃ last, last = max (place + k + (m.log2 : Int) - f.fractionBits) f.leastPlace := ⟨_, rfl⟩
    rw [← hl]
    have hle : last ≤ place + k := by rw [hl]; omega
    have key : Toward.even.cut false ((m * 2 ^ k) <<< (place - last).toNat) (last - place).toNat = Toward.even.cut false (m <<< (place + k - last).toNat) (last - (place + k)).toNat := by
      have e2 : (last - (place + k)).toNat = 0 := by omega
      rw [e2, cut_zero, Nat.shiftLeft_eq, Nat.shiftLeft_eq]
      rcases Int.le_total last place with h | h
      · have e1 : (last - place).toNat = 0 := by omega
        rw [e1, cut_zero, Nat.mul_assoc, ← Nat.pow_add]
        congr 2; omega
      · have e1 : (place - last).toNat = 0 := by omega
        have e3 : k = (place + k - last).toNat + (last - place).toNat := by omega
        rw [e1, Nat.pow_zero, Nat.mul_one]
        have hdv : m * 2 ^ k = m * 2 ^ (place + k - last).toNat * 2 ^ (last - place).toNat := by
          rw [Nat.mul_assoc, ← Nat.pow_add, ← e3]
        rw [cut_exact _ _ _ (by rw [log2_mul_pow m k h0]; omega) hne (by rw [hdv]; exact Nat.dvd_mul_left _ _)]
        rw [hdv]
        exact Nat.mul_div_cancel _ (Nat.pow_pos (by omega))
    rw [key]
theorem read_nearest (f : Format) (hE : 2 ≤ f.exponentBits) (hfb : f.fractionBits < 2 ^ (f.exponentBits - 1)) (n : Nat) (place : Int) (hn : n < 2 ^ (f.fractionBits + 1)) (h1 : f.leastPlace + f.fractionBits ≤ place) (h2 : place ≤ 0) :
    ∃ mag i, f.read (f.nearest false n place) = .number false mag i ∧ i ≤ place ∧ mag = n * 2 ^ (place - i).toNat ∧ f.leastPlace ≤ i := by
  by_cases h0 : n = 0
  · subst h0
    refine ⟨0, f.leastPlace, ?_, by omega, by simp, Int.le_refl _⟩
    have hb : 0 < f.binade := Nat.pow_pos (by omega)
    have hs : 0 < f.signWeight := Nat.pow_pos (by omega)
    simp [Format.nearest, Format.word, Format.read, hb]
  · have hL : n.log2 ≤ f.fractionBits := by
      have := (Nat.log2_lt h0).2 hn; omega
    obtain ⟨d, hd⟩ : ∃ d, d = f.fractionBits - n.log2 := ⟨_, rfl⟩
    have hlast : max (place + (n.log2 : Int) - f.fractionBits) f.leastPlace = place - d := by omega
    have hlo : 2 ^ f.fractionBits ≤ n * 2 ^ d := by
      have := Nat.log2_self_le h0
      calc 2 ^ f.fractionBits = 2 ^ n.log2 * 2 ^ d := by rw [← Nat.pow_add]; congr 1; omega
        _ ≤ n * 2 ^ d := Nat.mul_le_mul_right _ this
    have hhi : n * 2 ^ d < 2 ^ f.fractionBits * 2 := by
      have := Nat.lt_log2_self (n := n)
      calc n * 2 ^ d < 2 ^ (n.log2 + 1) * 2 ^ d := Nat.mul_lt_mul_of_pos_right this (Nat.pow_pos (by omega))
        _ = 2 ^ f.fractionBits * 2 := by rw [← Nat.pow_add, ← Nat.pow_succ]; congr 1; omega
    have hnear : f.nearest false n place = min ((place - d - f.leastPlace).toNat * f.binade + n * 2 ^ d) f.infRung := by
      unfold Format.nearest
      rw [if_neg h0]
      simp only [hlast]
      have e1 : (place - (place - d)).toNat = d := by omega
      have e2 : (place - (d : Int) - place).toNat = 0 := by omega
      rw [e1, e2, cut_zero, Nat.shiftLeft_eq]
      rfl
    obtain ⟨q, hq⟩ : ∃ q, q = (place - d - f.leastPlace).toNat := ⟨_, rfl⟩
    obtain ⟨r, hr⟩ : ∃ r, n * 2 ^ d = 2 ^ f.fractionBits + r := ⟨n * 2 ^ d - 2 ^ f.fractionBits, by omega⟩
    have hrlt : r < 2 ^ f.fractionBits := by omega
    have hexp : (2 : Nat) ^ f.exponentBits = 2 * 2 ^ (f.exponentBits - 1) := by rw [← Nat.pow_succ']; congr 1; omega
    have hhalf : 2 ≤ 2 ^ (f.exponentBits - 1) := by
      calc 2 = 2 ^ 1 := rfl
        _ ≤ _ := Nat.pow_le_pow_right (by omega) (by omega)
    have hleast : f.leastPlace = 2 - ((2 ^ (f.exponentBits - 1) : Nat) : Int) - f.fractionBits := by
      unfold Format.leastPlace; push_cast; rfl
    have hqlt : q + 1 < 2 ^ f.exponentBits - 1 := by
      rw [hq, hexp]; omega
    have hb : f.binade = 2 ^ f.fractionBits := rfl
    have hrung : q * f.binade + n * 2 ^ d = (q + 1) * f.binade + r := by rw [hr, Nat.add_mul, hb]; omega
    have hinf : (q + 1) * f.binade + r < f.infRung := by
      unfold Format.infRung
      calc (q + 1) * f.binade + r < (q + 1) * f.binade + f.binade := by rw [hb]; omega
        _ = (q + 2) * f.binade := by rw [← Nat.succ_mul]
        _ ≤ (2 ^ f.exponentBits - 1) * f.binade := Nat.mul_le_mul_right _ (by omega)
    have hsw : f.signWeight = 2 ^ f.exponentBits * f.binade := by unfold Format.signWeight Format.binade; rw [Nat.pow_add]
    have hlt : (q + 1) * f.binade + r < f.signWeight := by
      refine Nat.lt_of_lt_of_le hinf ?_
      rw [hsw]; unfold Format.infRung; exact Nat.mul_le_mul_right _ (by omega)
    refine ⟨n * 2 ^ d, place - d, ?_, by omega, by congr 2; omega, by omega⟩
    rw [hnear, ← hq, hrung, Nat.min_eq_left (Nat.le_of_lt hinf)]
    unfold Format.read
    have hbp : 0 < f.binade := Nat.pow_pos (by omega)
    have a1 : ((q + 1) * f.binade + r) / f.signWeight = 0 := Nat.div_eq_of_lt hlt
    have a2 : ((q + 1) * f.binade + r) % f.signWeight = (q + 1) * f.binade + r := Nat.mod_eq_of_lt hlt
    have a3 : ¬ ((q + 1) * f.binade + r < f.binade) := by
      have : 1 * f.binade ≤ (q + 1) * f.binade := Nat.mul_le_mul_right _ (by omega)
      omega
    have a4 : ((q + 1) * f.binade + r) % f.binade = r := by
      rw [Nat.mul_comm, Nat.mul_add_mod]; exact Nat.mod_eq_of_lt hrlt
    have a5 : ((q + 1) * f.binade + r) / f.binade = q + 1 := by
      rw [Nat.mul_comm, Nat.mul_add_div hbp, Nat.div_eq_of_lt (show r < f.binade from hrlt)]
    simp only [a1, a2, a3, hinf, if_false, if_true, a4, a5]
    congr 1
    · rw [hr, hb]
    · rw [hq]; omega
variable (f : Format) (hE : 2 ≤ f.exponentBits) (hfb : f.fractionBits < 2 ^ (f.exponentBits - 1))
include hE hfb
theorem mul_exact (n m j j' : Nat) (hn : n < 2 ^ (f.fractionBits + 1)) (hm : m < 2 ^ (f.fractionBits + 1)) (hnm : n * m < 2 ^ (f.fractionBits + 1)) (hj : f.leastPlace + f.fractionBits ≤ -((j + j' : Nat) : Int)) :
    f.mul (f.nearest false n (-(j : Int))) (f.nearest false m (-(j' : Int))) = some (f.nearest false (n * m) (-((j + j' : Nat) : Int))) := by
  obtain ⟨a, i, h1, h2, h3, h4⟩ := read_nearest f hE hfb n (-(j : Int)) hn (by omega) (by omega)
  obtain ⟨b, k, h5, h6, h7, h8⟩ := read_nearest f hE hfb m (-(j' : Int)) hm (by omega) (by omega)
  unfold Format.mul
  rw [h1, h5]
  simp only [Datum.product, Option.map_some, Format.write, Bool.xor_self]
  have e : a * b = n * m * 2 ^ ((-(j : Int) - i).toNat + (-(j' : Int) - k).toNat) := by
    rw [h3, h7, Nat.pow_add]; simp only [Nat.mul_assoc, Nat.mul_left_comm, Nat.mul_comm]
  rw [e, nearest_scale f (n * m) _ _ hnm (by omega)]
  congr 2
  omega
theorem add_exact (n m j j' J : Nat) (h : j ≤ J) (h' : j' ≤ J) (hJ : J = max j j') (hn : n < 2 ^ (f.fractionBits + 1)) (hm : m < 2 ^ (f.fractionBits + 1)) (hnm : n * 2 ^ (J - j) + m * 2 ^ (J - j') < 2 ^ (f.fractionBits + 1)) (hj : f.leastPlace + f.fractionBits ≤ -(J : Int)) :
    f.add (f.nearest false n (-(j : Int))) (f.nearest false m (-(j' : Int))) = some (f.nearest false (n * 2 ^ (J - j) + m * 2 ^ (J - j')) (-(J : Int))) := by
  obtain ⟨a, i, h1, h2, h3, h4⟩ := read_nearest f hE hfb n (-(j : Int)) hn (by omega) (by omega)
  obtain ⟨b, k, h5, h6, h7, h8⟩ := read_nearest f hE hfb m (-(j' : Int)) hm (by omega) (by omega)
  unfold Format.add
  rw [h1, h5]
  simp only [Datum.sum, Option.map_some, Format.write, signed, Bool.false_eq_true, if_false, Bool.and_self]
  obtain ⟨B, hB⟩ : ∃ B, B = min i k := ⟨_, rfl⟩
  rw [← hB]
  have hBJ : B ≤ -(J : Int) := by omega
  have e1 : a <<< (i - B).toNat = n * 2 ^ (J - j) * 2 ^ (-(J : Int) - B).toNat := by
    rw [Nat.shiftLeft_eq, h3, Nat.mul_assoc, Nat.mul_assoc, ← Nat.pow_add, ← Nat.pow_add]; congr 2; omega
  have e2 : b <<< (k - B).toNat = m * 2 ^ (J - j') * 2 ^ (-(J : Int) - B).toNat := by
    rw [Nat.shiftLeft_eq, h7, Nat.mul_assoc, Nat.mul_assoc, ← Nat.pow_add, ← Nat.pow_add]; congr 2; omega
  have e3 : ((a <<< (i - B).toNat : Nat) : Int) + ((b <<< (k - B).toNat : Nat) : Int) = (((n * 2 ^ (J - j) + m * 2 ^ (J - j')) * 2 ^ (-(J : Int) - B).toNat : Nat) : Int) := by
    rw [e1, e2, Nat.add_mul]; push_cast; rfl
  rw [e3]
  have e4 : (if (((n * 2 ^ (J - j) + m * 2 ^ (J - j')) * 2 ^ (-(J : Int) - B).toNat : Nat) : Int) = 0 then false else decide ((((n * 2 ^ (J - j) + m * 2 ^ (J - j')) * 2 ^ (-(J : Int) - B).toNat : Nat) : Int) < 0)) = false := by
    split
    · rfl
    · exact decide_eq_false (by omega)
  rw [e4, Int.natAbs_natCast, nearest_scale f _ _ _ hnm (by omega)]
  congr 2
  omega
theorem toInt_exact (n j : Nat) (hn : n < 2 ^ (f.fractionBits + 1)) (hj : f.leastPlace + f.fractionBits ≤ -(j : Int)) :
    (f.read (f.nearest false n (-(j : Int)))).toInt .zero = some ((n / 2 ^ j : Nat) : Int) := by
  obtain ⟨a, i, h1, h2, h3, h4⟩ := read_nearest f hE hfb n (-(j : Int)) hn (by omega) (by omega)
  rw [h1]
  simp only [Datum.toInt, Datum.integral, signed, Bool.false_eq_true, if_false, Nat.shiftLeft_zero]
  congr 2
  have e0 : i.toNat = 0 := by omega
  rw [e0, Nat.shiftLeft_zero]
  unfold Toward.cut
  simp only [Nat.one_shiftLeft, Bool.toNat_false, Nat.add_zero]
  have e1 : (-i).toNat = j + (-(j : Int) - i).toNat := by omega
  have hdiv : a / 2 ^ (-i).toNat = n / 2 ^ j := by
    rw [e1, h3, Nat.pow_add]
    exact Nat.mul_div_mul_right _ _ (Nat.pow_pos (by omega))
  rcases Nat.le_total (-i).toNat (a.log2 + 2) with h | h
  · rw [Nat.min_eq_left h]; exact hdiv
  · rw [Nat.min_eq_right h, ← hdiv]
    have h5 : a < 2 ^ (a.log2 + 2) := Nat.lt_of_lt_of_le Nat.lt_log2_self (Nat.pow_le_pow_right (by omega) (by omega))
    rw [Nat.div_eq_of_lt h5, Nat.div_eq_of_lt (Nat.lt_of_lt_of_le h5 (Nat.pow_le_pow_right (by omega) h))]
theorem order_exact (n m : Nat) (hn : n < 2 ^ (f.fractionBits + 1)) (hm : m < 2 ^ (f.fractionBits + 1)) (hj : f.leastPlace + f.fractionBits ≤ 0) :
    f.order (f.nearest false n 0) (f.nearest false m 0) = some (compare n m) := by
  obtain ⟨a, i, h1, h2, h3, h4⟩ := read_nearest f hE hfb n 0 hn (by omega) (by omega)
  obtain ⟨b, k, h5, h6, h7, h8⟩ := read_nearest f hE hfb m 0 hm (by omega) (by omega)
  unfold Format.order
  rw [h1, h5]
  simp only [Datum.order, signed, Bool.false_eq_true, if_false, Option.some.injEq]
  have e1 : a <<< (i - min i k).toNat = n * 2 ^ (-(min i k)).toNat := by
    rw [Nat.shiftLeft_eq, h3, Nat.mul_assoc, ← Nat.pow_add]; congr 2; omega
  have e2 : b <<< (k - min i k).toNat = m * 2 ^ (-(min i k)).toNat := by
    rw [Nat.shiftLeft_eq, h7, Nat.mul_assoc, ← Nat.pow_add]; congr 2; omega
  rw [e1, e2]
  have hp : 0 < 2 ^ (-(min i k)).toNat := Nat.pow_pos (by omega)
  generalize 2 ^ (-(min i k)).toNat = q at hp
  have cmp : ∀ A B : Int, compare A B = if A < B then .lt else if A = B then .eq else .gt := fun _ _ => rfl
  rw [cmp]
  rcases Nat.lt_trichotomy n m with h | h | h
  · rw [Nat.compare_eq_lt.2 h]
    have : n * q < m * q := Nat.mul_lt_mul_of_pos_right h hp
    rw [if_pos (by omega)]
  · subst h; rw [Nat.compare_eq_eq.2 rfl, if_neg (by omega), if_pos rfl]
  · rw [Nat.compare_eq_gt.2 h]
    have : m * q < n * q := Nat.mul_lt_mul_of_pos_right h hp
    rw [if_neg (by omega), if_neg (by omega)]
end Go.Sy
