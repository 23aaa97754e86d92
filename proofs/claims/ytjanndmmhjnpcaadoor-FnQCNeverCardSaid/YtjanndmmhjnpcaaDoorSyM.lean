/- Small words for whoever uses a run. -/
import Derived.Test.YtjanndmmhjnpcaaDoorSyK
set_option autoImplicit true
set_option relaxedAutoImplicit true
set_option linter.unusedVariables false
set_option linter.unusedSimpArgs false
namespace Go.Sy
open Go Go.RowKit
variable {E : Env} {β : Nat → Bk} {p : Prm} {w : World}
theorem facts_cons {b : SB} {t : Bool} {r : Fx} : Facts E ((b, t) :: r) ↔ b.den E = t ∧ Facts E r := by
  unfold Facts; simp
theorem facts_nil : Facts E [] ↔ True := by unfold Facts; simp
theorem lt_t {x y : SE} : (SB.lt x y).den E = true ↔ x.den E < y.den E := by simp only [SB.den, decide_eq_true_eq]
theorem lt_f {x y : SE} : (SB.lt x y).den E = false ↔ y.den E ≤ x.den E := by simp only [SB.den, decide_eq_false_iff_not, Int.not_lt]
theorem le_t {x y : SE} : (SB.le x y).den E = true ↔ x.den E ≤ y.den E := by simp only [SB.den, decide_eq_true_eq]
theorem le_f {x y : SE} : (SB.le x y).den E = false ↔ y.den E < x.den E := by simp only [SB.den, decide_eq_false_iff_not, Int.not_le]
theorem eq_t {x y : SE} : (SB.eq x y).den E = true ↔ x.den E = y.den E := by simp only [SB.den, beq_iff_eq]
theorem d_c (n : Int) : (SE.c n).den E = n := rfl
theorem d_v (i : Nat) : (SE.v i).den E = E.i i := rfl
theorem d_add (x y : SE) : (SE.add x y).den E = x.den E + y.den E := rfl
theorem d_sub (x y : SE) : (SE.sub x y).den E = x.den E - y.den E := rfl
theorem d_mul (x y : SE) : (SE.mul x y).den E = x.den E * y.den E := rfl
theorem d_av (i : Nat) (j : Nat) : (AE.v i).den E j = E.a i j := by simp only [AE.den]
theorem wrap_u64 (n : Int) : IntKind.u64.wrap n = n % 18446744073709551616 := by simp [IntKind.wrap, IntKind.bits, IntKind.signed]
end Go.Sy
