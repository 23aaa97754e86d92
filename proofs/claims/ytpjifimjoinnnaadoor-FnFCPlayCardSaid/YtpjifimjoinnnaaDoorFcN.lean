/- Flow control in plain numbers. -/
import Derived.Test.YtpjifimjoinnnaaDoorSyA
set_option autoImplicit true
set_option relaxedAutoImplicit true
set_option linter.unusedVariables false
set_option linter.unusedSimpArgs false
namespace Go.Proofs.YtpjifimjoinnnaaDoor
open Go Go.Sy Ieee
def flw (n : Int) : Int := fbase 1000 [.i 1, .i n, .i 0]
def limQ (rd sz : Int) : Int := fbase 1001 [.i 3, .i 1, .i (flw rd), .i (flw sz)]
def limF (rd sz : Int) : Int := fbase 1001 [.i 2, .i 1, .i 4616189618054758400, .i (limQ rd sz)]
def limW (rd sz rtt : Int) : Int := fbase 1001 [.i 2, .i 1, .i (limF rd sz), .i (flw rtt)]
def lim4 (rd sz rtt : Int) : Int := fbase 1002 [.i 1, .i (limW rd sz rtt)]
abbrev f64 : Format := (kof 1).format
theorem flw_bin {n : Int} (h1 : 1 ≤ n) (a b : Nat) (h2 : 2 ^ a ≤ n.toNat) (h3 : n.toNat < 2 ^ (b + 1)) (hb : b ≤ 30) : ∃ e : Int, Bin f64 (flw n).toNat e ∧ (a : Int) ≤ e ∧ e ≤ b := by
  have hn : n.toNat ≠ 0 := by omega
  have l1 := (Nat.le_log2 hn).2 h2
  have l2 := (Nat.log2_lt hn).2 h3
  have := nat_bin f64 hn (Nat.le_trans (by omega : n.toNat.log2 ≤ 30) (by decide)) (by decide) (by
    have e1 : f64.leastPlace = -1074 := by decide
    have e2 : f64.fractionBits = 52 := by decide
    have e3 : 2 ^ f64.exponentBits = 2048 := by decide
    rw [e1, e2, e3]; omega)
  refine ⟨(n.toNat.log2 : Nat), ?_, ?_, ?_⟩
  · have e : (flw n).toNat = f64.nearest false n.toNat 0 := by
      unfold flw fbase
      simp only [Int.toNat_natCast, Int.toNat_zero]
      rfl
    rw [e]; exact this
  · omega
  · omega
theorem lim4_ok {rd sz rtt : Int} (h : 1 ≤ rd ∧ rd ≤ 1000000) (hz : 2 ≤ sz ∧ sz ≤ 1000000) (hr : 1 ≤ rtt ∧ rtt ≤ 260000000) :
    gbase 1001 [.i 3, .i 1, .i (flw rd), .i (flw sz)] = true ∧ gbase 1001 [.i 2, .i 1, .i 4616189618054758400, .i (limQ rd sz)] = true ∧ gbase 1001 [.i 2, .i 1, .i (limF rd sz), .i (flw rtt)] = true ∧
    gbase 1002 [.i 1, .i (limW rd sz rtt)] = true ∧ 0 ≤ lim4 rd sz rtt ∧ lim4 rd sz rtt < 9007199254740992 := by
  have c1 : f64.leastPlace = -1074 := by decide
  have c2 : f64.fractionBits = 52 := by decide
  have c3 : 2 ^ f64.exponentBits = 2048 := by decide
  obtain ⟨a, ha, a1, a2⟩ := flw_bin h.1 0 19 (by omega) (by omega) (by omega)
  obtain ⟨b, hb, b1, b2⟩ := flw_bin (show 1 ≤ sz by omega) 1 19 (by omega) (by omega) (by omega)
  obtain ⟨c, hc, k1, k2⟩ := flw_bin hr.1 0 27 (by omega) (by omega) (by omega)
  obtain ⟨q, d, q1, q2, q3, q4⟩ := div_bin f64 ha hb (by rw [c1, c2]; omega) (by rw [c1, c2, c3]; omega)
  have hq : limQ rd sz = (q : Int) := by
    show (((fopt 3 (kof 1) (flw rd).toNat (flw sz).toNat).getD 0 : Nat) : Int) = _
    have : fopt 3 (kof 1) (flw rd).toNat (flw sz).toNat = some q := q1
    rw [this]; rfl
  have h4 : Bin f64 (4616189618054758400 : Int).toNat 2 := ⟨4503599627370496, -50, by decide +kernel, by decide, by decide, by decide⟩
  obtain ⟨r, e, r1, r2, r3, r4⟩ := mul_bin f64 h4 (show Bin f64 (limQ rd sz).toNat d by rw [hq, Int.toNat_natCast]; exact q2) (by rw [c1, c2]; omega) (by rw [c1, c2, c3]; omega)
  have hf : limF rd sz = (r : Int) := by
    show (((fopt 2 (kof 1) (4616189618054758400 : Int).toNat (limQ rd sz).toNat).getD 0 : Nat) : Int) = _
    have : fopt 2 (kof 1) (4616189618054758400 : Int).toNat (limQ rd sz).toNat = some r := r1
    rw [this]; rfl
  obtain ⟨s, g, s1, s2, s3, s4⟩ := mul_bin f64 (show Bin f64 (limF rd sz).toNat e by rw [hf, Int.toNat_natCast]; exact r2) hc (by rw [c1, c2]; omega) (by rw [c1, c2, c3]; omega)
  have hw : limW rd sz rtt = (s : Int) := by
    show (((fopt 2 (kof 1) (limF rd sz).toNat (flw rtt).toNat).getD 0 : Nat) : Int) = _
    have : fopt 2 (kof 1) (limF rd sz).toNat (flw rtt).toNat = some s := s1
    rw [this]; rfl
  obtain ⟨n, n1, n2⟩ := toInt_bin f64 s2 (by rw [c2]; omega)
  have n2 : n < 9007199254740992 := by rw [c2] at n2; exact n2
  have hd : ((kof 1).decode (limW rd sz rtt).toNat).toInt .zero = some (n : Int) := by rw [hw, Int.toNat_natCast]; exact n1
  have hl : lim4 rd sz rtt = (n : Int) := by
    show (((kof 1).decode (limW rd sz rtt).toNat).toInt .zero).getD 0 = _
    rw [hd]; rfl
  refine ⟨?_, ?_, ?_, ?_, by rw [hl]; omega, by rw [hl]; omega⟩
  · show (fopt 3 (kof 1) (flw rd).toNat (flw sz).toNat).isSome = true
    have : fopt 3 (kof 1) (flw rd).toNat (flw sz).toNat = some q := q1
    rw [this]; rfl
  · show (fopt 2 (kof 1) (4616189618054758400 : Int).toNat (limQ rd sz).toNat).isSome = true
    have : fopt 2 (kof 1) (4616189618054758400 : Int).toNat (limQ rd sz).toNat = some r := r1
    rw [this]; rfl
  · show (fopt 2 (kof 1) (limF rd sz).toNat (flw rtt).toNat).isSome = true
    have : fopt 2 (kof 1) (limF rd sz).toNat (flw rtt).toNat = some s := s1
    rw [this]; rfl
  · show (match ((kof 1).decode (limW rd sz rtt).toNat).toInt .zero with | some n => decide (IntKind.i64.min ≤ n ∧ n ≤ IntKind.i64.max) | none => false) = true
    rw [hd]
    have m1 : IntKind.i64.min = -9223372036854775808 := by decide
    have m2 : IntKind.i64.max = 9223372036854775807 := by decide
    exact decide_eq_true (by rw [m1, m2]; omega)
def duE (w r z : Int) : Prop := w - r ≤ z * 3 / 4
instance (w r z : Int) : Decidable (duE w r z) := by unfold duE; infer_instance
def grE (r z f : Int) : Prop := z / 2 < r - f
instance (r z f : Int) : Decidable (grE r z f) := by unfold grE; infer_instance
def fastE (at_ rtt r z t f : Int) : Prop := at_ - t < lim4 (r - f) z rtt
instance (at_ rtt r z t f : Int) : Decidable (fastE at_ rtt r z t f) := by unfold fastE; infer_instance
def upZ (at_ rtt r w z m t f : Int) : Int := if duE w r z ∧ grE r z f ∧ fastE at_ rtt r z t f then max z (min (2 * z) m) else z
def upT (at_ r w z t f : Int) : Int := if duE w r z ∧ grE r z f then at_ else t
def upF (r w z f : Int) : Int := if duE w r z ∧ grE r z f then r else f
def upW (at_ rtt r w z m t f : Int) : Int := if duE w r z then r + upZ at_ rtt r w z m t f else w
def upO (at_ rtt r w z m t f : Int) : Int := if duE w r z then r + upZ at_ rtt r w z m t f else 0
def enE (z' z cz : Int) : Prop := z < z' ∧ cz < z' * 3 / 2
instance (z' z cz : Int) : Decidable (enE z' z cz) := by unfold enE; infer_instance
def enZ (z' z cz cm : Int) : Int := if enE z' z cz then max cz (min (z' * 3 / 2) cm) else cz
def enT (z' z cz ct at_ : Int) : Int := if enE z' z cz then at_ else ct
def enF (z' z cz cf cr : Int) : Int := if enE z' z cz then cr else cf
def coT (d h t at_ : Int) : Int := if 0 < d ∧ h = 0 then at_ else t
def coF (d h f r : Int) : Int := if 0 < d ∧ h = 0 then r else f
end Go.Proofs.YtpjifimjoinnnaaDoor
