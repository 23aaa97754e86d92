/- Windows times 0.7 and 0.85, in words of floats. -/
import Derived.Test.YtlclcnkmdbmceaaCcN
import Derived.Test.YtlclcnkmdbmceaaSyX
set_option linter.unusedVariables false
set_option linter.unusedSimpArgs false
set_option maxRecDepth 100000
namespace Go.Proofs.Ytlclcnkmdbmceaa
open Go Go.Sy Ieee

def fl (kc cw : Int) : Int := fbase 1000 [.i kc, .i cw, .i 0]
theorem fl_nat {kc : Int} {c : Nat} : (fl kc c).toNat = (kof kc).format.nearest false c 0 := by
  show Int.toNat ((((kof kc).format.nearest false (Int.toNat (c : Int)) (-((Int.toNat 0 : Nat) : Int))) : Nat) : Int) = _
  rw [Int.toNat_natCast, Int.toNat_natCast]; rfl
theorem product_comm (x y : Datum) : x.product y = y.product x := by
  cases x <;> cases y <;> simp only [Datum.product, Bool.xor_comm, Nat.mul_comm, Int.add_comm] <;> rfl
theorem fmul_comm (f : Format) (x y : Nat) : f.mul x y = f.mul y x := by
  unfold Format.mul; rw [product_comm]
theorem fopt2 (k : FloatKind) (x y : Nat) : fopt 2 k x y = k.format.mul x y := rfl
/-- Both directions of one product. -/
theorem times {kc cw w : Int} {m j : Nat} (h : 2400 ≤ cw ∧ cw ≤ 200000) (hw0 : 0 ≤ w) (hE : 2 ≤ (kof kc).format.exponentBits) (hfb : (kof kc).format.fractionBits < 2 ^ ((kof kc).format.exponentBits - 1)) (hc1 : 200001 < 2 ^ (kof kc).format.fractionBits)
    (hw : (kof kc).format.read w.toNat = .number false m (-(j : Int))) (hm0 : 2 ^ (kof kc).format.fractionBits ≤ m) (hm : m < 2 ^ j) (hj : (kof kc).format.leastPlace ≤ -(j : Int)) (hbig : (-(kof kc).format.leastPlace).toNat + 3 < 2 ^ (kof kc).format.exponentBits - 1)
    (hlt : m * (2 * 2 ^ (kof kc).format.fractionBits + 1) ≤ 2 ^ j * (2 * 2 ^ (kof kc).format.fractionBits)) (x y : Int) (hxy : (x = fl kc cw ∧ y = w) ∨ (x = w ∧ y = fl kc cw)) :
    gbase 1001 [.i 2, .i kc, .i x, .i y] = true ∧ gbase 1002 [.i kc, .i (fbase 1001 [.i 2, .i kc, .i x, .i y])] = true ∧ 0 ≤ fbase 1002 [.i kc, .i (fbase 1001 [.i 2, .i kc, .i x, .i y])] ∧
      fbase 1002 [.i kc, .i (fbase 1001 [.i 2, .i kc, .i x, .i y])] * ((2 ^ j * (2 * 2 ^ (kof kc).format.fractionBits) : Nat) : Int) ≤ cw * ((m * (2 * 2 ^ (kof kc).format.fractionBits + 1) : Nat) : Int) := by
  obtain ⟨c, rfl⟩ := Int.eq_ofNat_of_zero_le (show 0 ≤ cw by omega)
  obtain ⟨r, n, h1, h2, h3⟩ := mul_const (kof kc).format hE hfb c m j w.toNat (by omega) (by omega) hw hm0 hm hj hbig
  have hop : fopt 2 (kof kc) x.toNat y.toNat = some r := by
    rw [fopt2]
    rcases hxy with ⟨rfl, rfl⟩ | ⟨rfl, rfl⟩
    · rw [fl_nat]; exact h1
    · rw [fl_nat, fmul_comm]; exact h1
  have hw1 : fbase 1001 [.i 2, .i kc, .i x, .i y] = (r : Int) := by
    show (((fopt 2 (kof kc) x.toNat y.toNat).getD 0 : Nat) : Int) = _
    rw [hop]; rfl
  have hn : n ≤ c := by
    have h4 : n * (2 ^ j * (2 * 2 ^ (kof kc).format.fractionBits)) ≤ c * (2 ^ j * (2 * 2 ^ (kof kc).format.fractionBits)) := by
      calc n * (2 ^ j * (2 * 2 ^ (kof kc).format.fractionBits)) = n * 2 ^ j * (2 * 2 ^ (kof kc).format.fractionBits) := by rw [Nat.mul_assoc]
        _ ≤ c * m * (2 * 2 ^ (kof kc).format.fractionBits + 1) := h3
        _ = c * (m * (2 * 2 ^ (kof kc).format.fractionBits + 1)) := by rw [Nat.mul_assoc]
        _ ≤ _ := Nat.mul_le_mul_left _ hlt
    refine Nat.le_of_mul_le_mul_right h4 (Nat.mul_pos (Nat.pow_pos (by omega)) (Nat.mul_pos (by omega) (Nat.pow_pos (by omega))))
  have hd : ((kof kc).decode ((r : Int)).toNat).toInt .zero = some (n : Int) := by rw [Int.toNat_natCast]; exact h2
  refine ⟨?_, ?_, ?_, ?_⟩
  · show (fopt 2 (kof kc) x.toNat y.toNat).isSome = true
    rw [hop]; rfl
  · rw [hw1]
    show (match ((kof kc).decode ((r : Int)).toNat).toInt .zero with | some n => decide (IntKind.i64.min ≤ n ∧ n ≤ IntKind.i64.max) | none => false) = true
    rw [hd]
    have m1 : IntKind.i64.min = -9223372036854775808 := by decide
    have m2 : IntKind.i64.max = 9223372036854775807 := by decide
    exact decide_eq_true (by rw [m1, m2]; omega)
  all_goals
    rw [hw1]
    have hv : fbase 1002 [.i kc, .i (r : Int)] = (n : Int) := by
      show (((kof kc).decode ((r : Int)).toNat).toInt .zero).getD 0 = _
      rw [hd]; rfl
    rw [hv]
  · omega
  · rw [← Int.natCast_mul, ← Int.natCast_mul]
    refine Int.ofNat_le.2 ?_
    rw [← Nat.mul_assoc n, ← Nat.mul_assoc c]; exact h3
def cutR (cw : Int) : Int := fbase 1002 [.i 1, .i (fbase 1001 [.i 2, .i 1, .i (fl 1 cw), .i 4604480259023595110])]
def cutC (cw : Int) : Int := fbase 1002 [.i 0, .i (fbase 1001 [.i 2, .i 0, .i (fl 0 cw), .i 1060320051])]
def lastC (cw : Int) : Int := fbase 1002 [.i 0, .i (fbase 1001 [.i 2, .i 0, .i 1062836634, .i (fl 0 cw)])]
theorem cutR_ok {cw : Int} (h : 2400 ≤ cw ∧ cw ≤ 200000) : gbase 1001 [.i 2, .i 1, .i (fl 1 cw), .i 4604480259023595110] = true ∧ gbase 1002 [.i 1, .i (fbase 1001 [.i 2, .i 1, .i (fl 1 cw), .i 4604480259023595110])] = true ∧ 0 ≤ cutR cw ∧ cutR cw < cw := by
  obtain ⟨a, b, c, d⟩ := times (kc := 1) (cw := cw) (w := 4604480259023595110) (m := 6305039478318694) (j := 53) h (by decide) (by decide) (by decide) (by decide) (by decide +kernel) (by decide +kernel) (by decide +kernel) (by decide +kernel) (by decide +kernel) (by decide +kernel) _ _ (.inl ⟨rfl, rfl⟩)
  refine ⟨a, b, c, ?_⟩
  have e1 : ((2 ^ 53 * (2 * 2 ^ (kof 1).format.fractionBits) : Nat) : Int) = 81129638414606681695789005144064 := by decide +kernel
  have e2 : ((6305039478318694 * (2 * 2 ^ (kof 1).format.fractionBits + 1) : Nat) : Int) = 56790746890224679889212080023142 := by decide +kernel
  rw [e1, e2] at d
  change 0 ≤ cutR cw at c
  change cutR cw * _ ≤ _ at d
  omega
theorem cutC_ok {cw : Int} (h : 2400 ≤ cw ∧ cw ≤ 200000) : gbase 1001 [.i 2, .i 0, .i (fl 0 cw), .i 1060320051] = true ∧ gbase 1002 [.i 0, .i (fbase 1001 [.i 2, .i 0, .i (fl 0 cw), .i 1060320051])] = true ∧ 0 ≤ cutC cw ∧ cutC cw < cw := by
  obtain ⟨a, b, c, d⟩ := times (kc := 0) (cw := cw) (w := 1060320051) (m := 11744051) (j := 24) h (by decide) (by decide) (by decide) (by decide) (by decide +kernel) (by decide +kernel) (by decide +kernel) (by decide +kernel) (by decide +kernel) (by decide +kernel) _ _ (.inl ⟨rfl, rfl⟩)
  refine ⟨a, b, c, ?_⟩
  have e1 : ((2 ^ 24 * (2 * 2 ^ (kof 0).format.fractionBits) : Nat) : Int) = 281474976710656 := by decide +kernel
  have e2 : ((11744051 * (2 * 2 ^ (kof 0).format.fractionBits + 1) : Nat) : Int) = 197032492086067 := by decide +kernel
  rw [e1, e2] at d
  change 0 ≤ cutC cw at c
  change cutC cw * _ ≤ _ at d
  omega
theorem lastC_ok {cw : Int} (h : 2400 ≤ cw ∧ cw ≤ 200000) : gbase 1001 [.i 2, .i 0, .i 1062836634, .i (fl 0 cw)] = true ∧ gbase 1002 [.i 0, .i (fbase 1001 [.i 2, .i 0, .i 1062836634, .i (fl 0 cw)])] = true := by
  obtain ⟨a, b, c, d⟩ := times (kc := 0) (cw := cw) (w := 1062836634) (m := 14260634) (j := 24) h (by decide) (by decide) (by decide) (by decide) (by decide +kernel) (by decide +kernel) (by decide +kernel) (by decide +kernel) (by decide +kernel) (by decide +kernel) _ _ (.inr ⟨rfl, rfl⟩)
  exact ⟨a, b⟩
def winR (cw sz : Int) : Int := imx (cutR cw) (sz * 2)
def winC (cw sz : Int) : Int := imx (cutC cw) (sz * 2)
def lastM (cw last : Int) : Int := if cw + 1280 < last then lastC cw else cw
def evs (ev n lc : Int) : Int := if 0 < ev ∧ lc < n then IntKind.u64.wrap (ev + 1) else ev
theorem winR_ok {cw sz : Int} (h : 2400 ≤ cw ∧ cw ≤ 200000) (hz : 1200 ≤ sz ∧ sz ≤ 1455) : 2400 ≤ winR cw sz ∧ winR cw sz ≤ 200000 ∧ sz * 2 ≤ winR cw sz ∧ (winR cw sz < cw ∨ winR cw sz = sz * 2) := by
  have := cutR_ok h
  have := imx_or (cutR cw) (sz * 2)
  unfold winR; omega
theorem winC_ok {cw sz : Int} (h : 2400 ≤ cw ∧ cw ≤ 200000) (hz : 1200 ≤ sz ∧ sz ≤ 1455) : 2400 ≤ winC cw sz ∧ winC cw sz ≤ 200000 ∧ sz * 2 ≤ winC cw sz ∧ (winC cw sz < cw ∨ winC cw sz = sz * 2) := by
  have := cutC_ok h
  have := imx_or (cutC cw) (sz * 2)
  unfold winC; omega
end Go.Proofs.Ytlclcnkmdbmceaa
