/- Small words for whoever uses a run. -/
import Derived.Test.YtlclcnkmdbmceaaSyK
set_option linter.unusedVariables false
set_option linter.unusedSimpArgs false
namespace Go.Sy
open Go Go.RowKit
variable {E : Env} {β : Nat → Bk} {p : Prm} {w : World}
theorem facts_cons {b : SB} {t : Bool} {r : Fx} : Facts E ((b, t) :: r) ↔ b.den E = t ∧ Facts E r := by
  unfold Facts; simp
theorem facts_nil : Facts E [] ↔ True := by unfold Facts; simp
theorem ext_below {E' : Env} {β' : Nat → Bk} {w' : World} {h' : List SBlk} (x : Ext E [] β w E' h' β' w') : Below w.heap.size w w' :=
  ⟨x.os, x.tape, x.output, x.size, fun b hb => x.same b hb fun i s hi => by simp at hi⟩
theorem hok_empty (β : Nat → Bk) (w : World) : HOk E β [] w := hok_nil
theorem lt_t {x y : SE} : (SB.lt x y).den E = true ↔ x.den E < y.den E := by simp only [SB.den, decide_eq_true_eq]
theorem lt_f {x y : SE} : (SB.lt x y).den E = false ↔ y.den E ≤ x.den E := by simp only [SB.den, decide_eq_false_iff_not, Int.not_lt]
theorem le_t {x y : SE} : (SB.le x y).den E = true ↔ x.den E ≤ y.den E := by simp only [SB.den, decide_eq_true_eq]
theorem le_f {x y : SE} : (SB.le x y).den E = false ↔ y.den E < x.den E := by simp only [SB.den, decide_eq_false_iff_not, Int.not_le]
theorem eq_t {x y : SE} : (SB.eq x y).den E = true ↔ x.den E = y.den E := by simp only [SB.den, beq_iff_eq]
theorem eq_f {x y : SE} : (SB.eq x y).den E = false ↔ x.den E ≠ y.den E := by simp only [SB.den, beq_eq_false_iff_ne]
theorem not_t {x : SB} : (SB.not x).den E = true ↔ x.den E = false := by simp [SB.den]
theorem not_f {x : SB} : (SB.not x).den E = false ↔ x.den E = true := by simp [SB.den]
/- whole numbers by themselves -/
theorem d_c (n : Int) : (SE.c n).den E = n := rfl
theorem d_v (i : Nat) : (SE.v i).den E = E.i i := rfl
theorem d_add (x y : SE) : (SE.add x y).den E = x.den E + y.den E := rfl
theorem d_sub (x y : SE) : (SE.sub x y).den E = x.den E - y.den E := rfl
theorem d_mul (x y : SE) : (SE.mul x y).den E = x.den E * y.den E := rfl
theorem d_wrap (k : IntKind) (x : SE) : (SE.wrap k x).den E = k.wrap (x.den E) := rfl
theorem d_tdiv (x y : SE) : (SE.tdiv x y).den E = (x.den E).tdiv (y.den E) := rfl
theorem d_tmod (x y : SE) : (SE.tmod x y).den E = (x.den E).tmod (y.den E) := rfl
theorem d_bits (o : BinOp) (k : IntKind) (x y : SE) : (SE.bits o k x y).den E = Go.bits o k (x.den E) (y.den E) := rfl
theorem d_shl (k : IntKind) (x y : SE) : (SE.shl k x y).den E = k.wrap (x.den E * 2 ^ min (y.den E).toNat k.bits) := rfl
theorem d_shr (k : IntKind) (x y : SE) : (SE.shr k x y).den E = (x.den E).fdiv (2 ^ min (y.den E).toNat k.bits) := rfl
theorem d_rd (a : AE) (o : SE) : (SE.rd a o).den E = a.den E (o.den E).toNat := rfl
theorem d_av (i : Nat) (j : Nat) : (AE.v i).den E j = E.a i j := by simp only [AE.den]
theorem d_aap (f : Nat) (l : SL) (j : Nat) : (AE.ap f l).den E j = E.fn.a f (l.den E) j := by simp only [AE.den]
theorem d_ite (b : SB) (x y : SE) : (SE.ite b x y).den E = if b.den E then x.den E else y.den E := rfl
theorem d_bv (i : Nat) : (SB.v i).den E = E.b i := rfl
theorem d_bc (b : Bool) : (SB.c b).den E = b := rfl
theorem d_bap (f : Nat) (l : SL) : (SB.ap f l).den E = E.fn.g f (l.den E) := rfl
theorem d_slnil : (SL.nil).den E = [] := rfl
theorem d_sli (x : SE) (r : SL) : (SL.i x r).den E = .i (x.den E) :: r.den E := rfl
theorem d_slb (x : SB) (r : SL) : (SL.b x r).den E = .i (b2i (x.den E)) :: r.den E := rfl
theorem d_sla (x : AE) (r : SL) : (SL.a x r).den E = .a (x.den E) :: r.den E := rfl
theorem d_mn (x y : SE) : (SE.mn x y).den E = imn (x.den E) (y.den E) := rfl
theorem d_mx (x y : SE) : (SE.mx x y).den E = imx (x.den E) (y.den E) := rfl
theorem d_ni (x y : SE) : (SE.ni x y).den E = ini (x.den E) (y.den E) := rfl
theorem d_ap (f : Nat) (l : SL) : (SE.ap f l).den E = E.fn.f f (l.den E) := rfl
theorem w64 {n : Int} (h : -9223372036854775808 ≤ n ∧ n ≤ 9223372036854775807) : IntKind.i64.wrap n = n := by rw [IntKind.wrap_i64]; omega
theorem wrap_u64 (n : Int) : IntKind.u64.wrap n = n % 18446744073709551616 := by simp [IntKind.wrap, IntKind.bits, IntKind.signed]
theorem ws_i64 (n : Int) : IntKind.i64.wrap n = (n + 9223372036854775808) % 18446744073709551616 - 9223372036854775808 := IntKind.wrap_i64 n
theorem ws_u8 (n : Int) : IntKind.u8.wrap n = n % 256 := IntKind.wrap_u8 n
theorem ws_u16 (n : Int) : IntKind.u16.wrap n = n % 65536 := IntKind.wrap_u16 n
theorem ws_u32 (n : Int) : IntKind.u32.wrap n = n % 4294967296 := IntKind.wrap_u32 n
end Go.Sy
