/- Words of floats between powers of two: products, quotients, made whole. -/
import Derived.Test.YtjanndmmhjnpcaaDoorSyX
set_option autoImplicit true
set_option relaxedAutoImplicit true
set_option linter.unusedVariables false
set_option linter.unusedSimpArgs false
namespace Go.Sy
open Ieee
def Bin (f : Format) (w : Nat) (e : Int) : Prop := ∃ m i, f.read w = .number false m i ∧ 2 ^ f.fractionBits ≤ m ∧ m < 2 * 2 ^ f.fractionBits ∧ i = e - f.fractionBits
theorem read_rung2 (f : Format) (q kept : Nat) (h1 : 2 ^ f.fractionBits ≤ kept) (h2 : kept ≤ 2 * 2 ^ f.fractionBits) (hq : q + 3 < 2 ^ f.exponentBits - 1) :
    ∃ mag i, f.read (min (q * f.binade + kept) f.infRung) = .number false mag i ∧ 2 ^ f.fractionBits ≤ mag ∧ mag < 2 * 2 ^ f.fractionBits ∧ (i = f.leastPlace + q ∨ (kept = 2 * 2 ^ f.fractionBits ∧ i = f.leastPlace + (q + 1 : Nat))) := by
  have hb : f.binade = 2 ^ f.fractionBits := rfl
  have hbp : 0 < f.binade := Nat.pow_pos (by omega)
  have hsw : f.signWeight = 2 ^ f.exponentBits * f.binade := by unfold Format.signWeight Format.binade; rw [Nat.pow_add]
  obtain ⟨t, r, hk, hr, ht⟩ : ∃ t r, q * f.binade + kept = (t + 1) * f.binade + r ∧ r < f.binade ∧ ((t = q ∧ kept = f.binade + r) ∨ (t = q + 1 ∧ r = 0 ∧ kept = 2 * f.binade)) := by
    by_cases h : kept = 2 * f.binade
    · exact ⟨q + 1, 0, by rw [h, Nat.add_mul, Nat.add_mul]; omega, hbp, .inr ⟨rfl, rfl, h⟩⟩
    · exact ⟨q, kept - f.binade, by rw [Nat.add_mul]; omega, by omega, .inl ⟨rfl, by omega⟩⟩
  have htq : t ≤ q + 1 := by rcases ht with h | h <;> omega
  have hinf : (t + 1) * f.binade + r < f.infRung := by
    unfold Format.infRung
    calc (t + 1) * f.binade + r < (t + 1) * f.binade + f.binade := by omega
      _ = (t + 2) * f.binade := by rw [← Nat.succ_mul]
      _ ≤ (2 ^ f.exponentBits - 1) * f.binade := Nat.mul_le_mul_right _ (by omega)
  have hlt : (t + 1) * f.binade + r < f.signWeight := by
    refine Nat.lt_of_lt_of_le hinf ?_
    rw [hsw]; unfold Format.infRung; exact Nat.mul_le_mul_right _ (by omega)
  rw [hk, Nat.min_eq_left (Nat.le_of_lt hinf)]
  have a1 : ((t + 1) * f.binade + r) / f.signWeight = 0 := Nat.div_eq_of_lt hlt
  have a2 : ((t + 1) * f.binade + r) % f.signWeight = (t + 1) * f.binade + r := Nat.mod_eq_of_lt hlt
  have a3 : ¬ ((t + 1) * f.binade + r < f.binade) := by
    have : 1 * f.binade ≤ (t + 1) * f.binade := Nat.mul_le_mul_right _ (by omega)
    omega
  have a4 : ((t + 1) * f.binade + r) % f.binade = r := by
    rw [Nat.mul_comm, Nat.mul_add_mod]; exact Nat.mod_eq_of_lt hr
  have a5 : ((t + 1) * f.binade + r) / f.binade = t + 1 := by
    rw [Nat.mul_comm, Nat.mul_add_div hbp, Nat.div_eq_of_lt hr]
  refine ⟨f.binade + r, f.leastPlace + (t : Nat), ?_, by omega, by omega, ?_⟩
  · unfold Format.read
    simp only [a1, a2, a3, hinf, if_false, if_true, a4, a5]
    rfl
  · rcases ht with ⟨rfl, h⟩ | ⟨rfl, rfl, h⟩
    · exact .inl rfl
    · exact .inr ⟨h, rfl⟩
theorem nearest_bin (f : Format) (M : Nat) (p : Int) (hM : M ≠ 0) (hlo : f.leastPlace + f.fractionBits ≤ p + M.log2) (hhi : (p + M.log2 - f.fractionBits - f.leastPlace).toNat + 3 < 2 ^ f.exponentBits - 1) :
    ∃ e, Bin f (f.nearest false M p) e ∧ p + M.log2 ≤ e ∧ e ≤ p + M.log2 + 1 ∧ (M.log2 ≤ f.fractionBits → e = p + M.log2) := by
  obtain ⟨L, hL⟩ : ∃ L, L = M.log2 := ⟨_, rfl⟩
  rw [← hL] at hlo hhi ⊢
  have hl1 : 2 ^ L ≤ M := by rw [hL]; exact Nat.log2_self_le hM
  have hl2 : M < 2 ^ (L + 1) := by rw [hL]; exact Nat.lt_log2_self
  have hlast : max (p + (L : Int) - f.fractionBits) f.leastPlace = p + L - f.fractionBits := by omega
  have hnear : ∀ K, Toward.even.cut false (M <<< (p - (p + L - f.fractionBits)).toNat) ((p + L - f.fractionBits) - p).toNat = K → f.nearest false M p = min ((p + L - f.fractionBits - f.leastPlace).toNat * f.binade + K) f.infRung := by
    intro K hK
    unfold Format.nearest
    rw [if_neg hM]
    simp only [← hL, hlast, hK]
    rfl
  have fin : ∀ K, Toward.even.cut false (M <<< (p - (p + L - f.fractionBits)).toNat) ((p + L - f.fractionBits) - p).toNat = K → 2 ^ f.fractionBits ≤ K → K ≤ 2 * 2 ^ f.fractionBits → (L ≤ f.fractionBits → K < 2 * 2 ^ f.fractionBits) →
      ∃ e, Bin f (f.nearest false M p) e ∧ p + L ≤ e ∧ e ≤ p + L + 1 ∧ (L ≤ f.fractionBits → e = p + L) := by
    intro K hK h1 h2 h3
    rw [hnear K hK]
    obtain ⟨mag, i, r1, r2, r3, r4⟩ := read_rung2 f (p + L - f.fractionBits - f.leastPlace).toNat K h1 h2 (by omega)
    rcases r4 with r4 | ⟨r4, r5⟩
    · exact ⟨p + L, ⟨mag, i, r1, r2, r3, by omega⟩, by omega, by omega, fun _ => rfl⟩
    · exact ⟨p + L + 1, ⟨mag, i, r1, r2, r3, by omega⟩, by omega, by omega, fun h => by have := h3 h; omega⟩
  rcases Nat.lt_or_ge L f.fractionBits with h | h
  · have e1 : (p - (p + L - f.fractionBits)).toNat = f.fractionBits - L := by omega
    have e2 : ((p + L - f.fractionBits) - p).toNat = 0 := by omega
    have hK : M <<< (f.fractionBits - L) = M * 2 ^ (f.fractionBits - L) := Nat.shiftLeft_eq _ _
    have k1 : 2 ^ f.fractionBits ≤ M * 2 ^ (f.fractionBits - L) := by
      calc 2 ^ f.fractionBits = 2 ^ L * 2 ^ (f.fractionBits - L) := by rw [← Nat.pow_add]; congr 1; omega
        _ ≤ _ := Nat.mul_le_mul_right _ hl1
    have k2 : M * 2 ^ (f.fractionBits - L) < 2 * 2 ^ f.fractionBits := by
      calc M * 2 ^ (f.fractionBits - L) < 2 ^ (L + 1) * 2 ^ (f.fractionBits - L) := Nat.mul_lt_mul_of_pos_right hl2 (Nat.pow_pos (by omega))
        _ = 2 * 2 ^ f.fractionBits := by rw [← Nat.pow_add, show L + 1 + (f.fractionBits - L) = f.fractionBits + 1 by omega, Nat.pow_succ]; omega
    refine fin (M * 2 ^ (f.fractionBits - L)) ?_ k1 (Nat.le_of_lt k2) (fun _ => k2)
    rw [e1, e2, hK]
    unfold Toward.cut
    simp [Nat.mod_one]
  · have e1 : (p - (p + L - f.fractionBits)).toNat = 0 := by omega
    have e2 : ((p + L - f.fractionBits) - p).toNat = L - f.fractionBits := by omega
    obtain ⟨D, hD⟩ : ∃ D, D = L - f.fractionBits := ⟨_, rfl⟩
    obtain ⟨c1, c2, c3⟩ := cut_even_bd M D (by omega)
    have hDp : 0 < 2 ^ D := Nat.pow_pos (by omega)
    have hMD : 2 ^ f.fractionBits * 2 ^ D ≤ M := by
      rw [← Nat.pow_add, show f.fractionBits + D = L by omega]; exact hl1
    have hMD2 : M < 2 * 2 ^ f.fractionBits * 2 ^ D := by
      rw [show 2 * 2 ^ f.fractionBits = 2 ^ (f.fractionBits + 1) by rw [Nat.pow_succ]; omega, ← Nat.pow_add, show f.fractionBits + 1 + D = L + 1 by omega]
      exact hl2
    have k1 := (Nat.le_div_iff_mul_le hDp).2 hMD
    have k2 := (Nat.div_lt_iff_lt_mul hDp).2 hMD2
    refine fin (Toward.even.cut false M D) ?_ (Nat.le_trans k1 c2) (by omega) (fun hh => ?_)
    · rw [e1, e2, Nat.shiftLeft_zero, hD]
    · have hD0 : D = 0 := by omega
      subst hD0
      have : Toward.even.cut false M 0 = M := by unfold Toward.cut; simp [Nat.mod_one]
      rw [this]
      have : L = f.fractionBits := by omega
      rw [this] at hl2
      rw [Nat.pow_succ] at hl2; omega
theorem order_big (f : Format) (hE : 2 ≤ f.exponentBits) (hfb : f.fractionBits < 2 ^ (f.exponentBits - 1)) (hfb0 : f.fractionBits < 62) (n m : Nat) (hn : n < 2 ^ 63) (hm : m < 2 ^ (f.fractionBits + 1)) (hj : f.leastPlace + f.fractionBits ≤ 0)
    (hhi : (62 - f.fractionBits - f.leastPlace).toNat + 3 < 2 ^ f.exponentBits - 1) :
    f.order (f.nearest false n 0) (f.nearest false m 0) = some (compare n m) := by
  rcases Nat.lt_or_ge n (2 ^ (f.fractionBits + 1)) with h | h
  · exact order_exact f hE hfb n m h hm hj
  · have hn0 : n ≠ 0 := by have := Nat.pow_pos (a := 2) (n := f.fractionBits + 1) (by omega); omega
    have l1 := (Nat.le_log2 hn0).2 h
    have l2 := (Nat.log2_lt hn0).2 hn
    obtain ⟨e, ⟨a, i, h1, h2, _, h4⟩, r2, r3, _⟩ := nearest_bin f n 0 hn0 (by omega) (by omega)
    obtain ⟨b, k, g1, g2, g3, g4⟩ := read_nearest f hE hfb m 0 hm (by omega) (by omega)
    rw [Nat.compare_eq_gt.2 (show m < n by omega)]
    unfold Format.order
    rw [h1, g1]
    simp only [Datum.order, signed, Bool.false_eq_true, if_false, Option.some.injEq]
    have hmin : min i k = k := by omega
    rw [hmin, Nat.shiftLeft_eq, Nat.shiftLeft_eq]
    have e2 : (k - k).toNat = 0 := by omega
    have e3 : (0 - k).toNat = (-k).toNat := by omega
    rw [e2, Nat.pow_zero, Nat.mul_one]
    rw [e3] at g3
    have hlt : b < a * 2 ^ (i - k).toNat := by
      obtain ⟨d, hd⟩ : ∃ d, (i - k).toNat = d + 1 + (-k).toNat := ⟨(i - k).toNat - 1 - (-k).toNat, by omega⟩
      rw [hd, Nat.pow_add, ← Nat.mul_assoc, g3]
      refine Nat.mul_lt_mul_of_pos_right ?_ (Nat.pow_pos (by omega))
      have : 2 ^ f.fractionBits * 2 ≤ a * 2 ^ (d + 1) := Nat.mul_le_mul h2 (by rw [Nat.pow_succ]; have := Nat.pow_pos (a := 2) (n := d) (by omega); omega)
      rw [Nat.pow_succ] at hm
      omega
    have cmp : ∀ A B : Int, compare A B = if A < B then .lt else if A = B then .eq else .gt := fun _ _ => rfl
    rw [cmp, if_neg (by omega), if_neg (by omega)]
end Go.Sy
