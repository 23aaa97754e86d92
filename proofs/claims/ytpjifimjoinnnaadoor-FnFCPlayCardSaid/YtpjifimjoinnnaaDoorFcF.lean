/- The plain rule's step: what its names stand for. -/
import Derived.Test.YtpjifimjoinnnaaDoorFcE
import Derived.Test.YtpjifimjoinnnaaDoorFcK
set_option autoImplicit true
set_option relaxedAutoImplicit true
set_option linter.unusedVariables false
set_option linter.unusedSimpArgs false
namespace Go.Proofs.YtpjifimjoinnnaaDoor
open Go Go.Sy Go.RowKit
variable {E : Env}
def cE7 (E : Env) : P1 := ⟨E.i 0, E.i 1, E.i 2, E.i 3, E.i 4, E.i 5, E.i 6, E.i 7, E.i 8, E.i 9, b2i (E.b 10), b2i (E.b 11)⟩
def sE (E : Env) : Fs := ⟨cE7 E, toP (E.a 0), E.i 40, b2i (E.b 12)⟩
def xE (E : Env) : Stp1 := ⟨E.i 60, E.i 61, E.i 62, E.i 63, E.i 64, b2i (E.b 13)⟩
theorem cA_den : toP (cA.den E) 0 = cE7 E := by
  simp only [toP, cA, AE.den, SE.den, Int.toNat_zero, Nat.not_lt_zero, if_false, Nat.mul_zero, Nat.zero_add, Nat.sub_zero]
  rfl
theorem oF_den (hE : E.fn = fns) (j : Nat) : (oF j).den E = seenF 0 (sE E) (xE E) j := by
  show E.fn.f 21 [.i (j : Int), .a (cA.den E), .i (E.i 40), .i (b2i (E.b 12)), .a ((AE.v 0).den E), .i (E.i 60), .i (E.i 61), .i (E.i 62), .i (E.i 63), .i (E.i 64), .i (b2i (E.b 13))] = _
  rw [hE]
  show seenF 0 ⟨toP (cA.den E) 0, _, _, _⟩ _ ((j : Int).toNat) = _
  rw [cA_den, Int.toNat_natCast]
  rfl
theorem cF_den (hE : E.fn = fns) (j : Nat) : (cF j).den E = (stp 0 (sE E) (xE E)).c.get j := by
  show E.fn.f 20 [.i (j : Int), .a (cA.den E), .i (E.i 40), .i (b2i (E.b 12)), .a ((AE.v 0).den E), .i (E.i 60), .i (E.i 61), .i (E.i 62), .i (E.i 63), .i (E.i 64), .i (b2i (E.b 13))] = _
  rw [hE]
  show (stp 0 ⟨toP (cA.den E) 0, _, _, _⟩ _).c.get ((j : Int).toNat) = _
  rw [cA_den, Int.toNat_natCast]
  rfl
theorem aF_den (hE : E.fn = fns) (o : Nat) : (AE.ap 1 sArgs).den E o = ((stp 0 (sE E) (xE E)).p (o / 12)).get (o % 12) := by
  show E.fn.a 1 [.a (cA.den E), .i (E.i 40), .i (b2i (E.b 12)), .a ((AE.v 0).den E), .i (E.i 60), .i (E.i 61), .i (E.i 62), .i (E.i 63), .i (E.i 64), .i (b2i (E.b 13))] o = _
  rw [hE]
  show ((stp 0 ⟨toP (cA.den E) 0, _, _, _⟩ _).p (o / 12)).get (o % 12) = _
  rw [cA_den]
  rfl
theorem toP_get (a : Nat → Int) (j : Nat) : (toP a (j / 12)).get (j % 12) = a j := by
  have h : j % 12 < 12 := Nat.mod_lt _ (by omega)
  have e := Nat.div_add_mod j 12
  generalize j / 12 = q at *
  generalize j % 12 = r at *
  subst e
  match r, h with
  | 0, _ => rfl | 1, _ => rfl | 2, _ => rfl | 3, _ => rfl | 4, _ => rfl | 5, _ => rfl | 6, _ => rfl | 7, _ => rfl | 8, _ => rfl | 9, _ => rfl | 10, _ => rfl | 11, _ => rfl
theorem arr_set {a A : Nat → Int} {S : Nat} {y : P1} (h0 : A (12 * S) = y.h) (h1 : A (12 * S + 1) = y.r) (h2 : A (12 * S + 2) = y.w) (h3 : A (12 * S + 3) = y.z) (h4 : A (12 * S + 4) = y.m) (h5 : A (12 * S + 5) = y.t) (h6 : A (12 * S + 6) = y.f)
    (h7 : A (12 * S + 7) = y.s) (h8 : A (12 * S + 8) = y.l) (h9 : A (12 * S + 9) = y.b) (h10 : A (12 * S + 10) = y.fin) (h11 : A (12 * S + 11) = y.gone) (ho : ∀ j, j / 12 ≠ S → A j = a j) (s : Fs) (hs : s.p = toP a) (j : Nat) :
    A j = (s.set S y (j / 12)).get (j % 12) := by
  unfold Fs.set
  by_cases h : j / 12 = S
  · rw [if_pos h]
    have hl : j % 12 < 12 := Nat.mod_lt _ (by omega)
    have e := Nat.div_add_mod j 12
    rw [h] at e
    generalize j % 12 = r at *
    subst e
    match r, hl with
    | 0, _ => exact h0 | 1, _ => exact h1 | 2, _ => exact h2 | 3, _ => exact h3 | 4, _ => exact h4 | 5, _ => exact h5 | 6, _ => exact h6 | 7, _ => exact h7 | 8, _ => exact h8 | 9, _ => exact h9 | 10, _ => exact h10 | 11, _ => exact h11
  · rw [if_neg h, hs, toP_get, ho j h]
theorem stp0b0 {s : Fs} {x : Stp1} (hk : x.k = 0) (h : ¬ e6a (s.p x.S.toNat) x) (h2 : e6b (s.p x.S.toNat) x) : stp 0 s x = s := by unfold stp; simp only [hk, if_true, if_neg h, if_pos h2]; rfl
theorem stp20 {s : Fs} {x : Stp1} (hk : x.k = 2) : stp 0 s x = { s with p := s.set x.S.toNat { s.p x.S.toNat with gone := 1 }, c := { s.c with r := s.c.r + ((s.p x.S.toNat).h - (s.p x.S.toNat).r) } } := by unfold stp; simp [hk]
theorem finq {b : Bool} {f : Int} (hf : f = 0) : (if b = true then (1 : Int) else 0) = if f ≠ 0 ∨ b2i b ≠ 0 then 1 else 0 := by subst hf; cases b <;> simp [b2i]
theorem nz_if {p : Prop} [Decidable p] {b : Bool} (h : b = true ↔ p) : b = !((if p then (1 : Int) else 0) == 0) := by
  by_cases hp : p <;> cases b <;> simp_all
end Go.Proofs.YtpjifimjoinnnaaDoor
