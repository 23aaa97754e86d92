/- Small words about what stands for what. -/
import Derived.Test.YtpjifimjoinnnaaDoorFcO
import Derived.Test.YtpjifimjoinnnaaDoorSyQ
import Derived.KernelRfl
set_option autoImplicit true
set_option relaxedAutoImplicit true
set_option linter.unusedVariables false
set_option linter.unusedSimpArgs false
set_option maxRecDepth 100000
set_option maxHeartbeats 8000000
namespace Go.Proofs.YtpjifimjoinnnaaDoor
open Go Go.Sy Go.RowKit
variable {E : Env}
theorem f1 (a b c d e f g h : Int) : fns.f 1 [.i a, .i b, .i c, .i d, .i e, .i f, .i g, .i h] = upZ a b c d e f g h := rfl
theorem f2 (a b c d e f : Int) : fns.f 2 [.i a, .i b, .i c, .i d, .i e, .i f] = upT a b c d e f := rfl
theorem f3 (a b c d : Int) : fns.f 3 [.i a, .i b, .i c, .i d] = upF a b c d := rfl
theorem f4 (a b c d e f g h : Int) : fns.f 4 [.i a, .i b, .i c, .i d, .i e, .i f, .i g, .i h] = upW a b c d e f g h := rfl
theorem f5 (a b c d e f g h : Int) : fns.f 5 [.i a, .i b, .i c, .i d, .i e, .i f, .i g, .i h] = upO a b c d e f g h := rfl
theorem f6 (a b c d : Int) : fns.f 6 [.i a, .i b, .i c, .i d] = enZ a b c d := rfl
theorem f7 (a b c d e : Int) : fns.f 7 [.i a, .i b, .i c, .i d, .i e] = enT a b c d e := rfl
theorem f8 (a b c d e : Int) : fns.f 8 [.i a, .i b, .i c, .i d, .i e] = enF a b c d e := rfl
theorem f9 (a b c d : Int) : fns.f 9 [.i a, .i b, .i c, .i d] = coT a b c d := rfl
theorem f10 (a b c d : Int) : fns.f 10 [.i a, .i b, .i c, .i d] = coF a b c d := rfl
theorem tdn {a b : Int} (h : 0 ≤ a) : a.tdiv b = a / b := Int.tdiv_eq_ediv_of_nonneg h
theorem b1000 (a b c : Int) : fns.f 1000 [.i a, .i b, .i c] = fbase 1000 [.i a, .i b, .i c] := rfl
theorem b1001 (a b c d : Int) : fns.f 1001 [.i a, .i b, .i c, .i d] = fbase 1001 [.i a, .i b, .i c, .i d] := rfl
theorem b1002 (a b : Int) : fns.f 1002 [.i a, .i b] = fbase 1002 [.i a, .i b] := rfl
theorem g1001 (a b c d : Int) : fns.g 1001 [.i a, .i b, .i c, .i d] = gbase 1001 [.i a, .i b, .i c, .i d] := rfl
theorem g1002 (a b : Int) : fns.g 1002 [.i a, .i b] = gbase 1002 [.i a, .i b] := rfl
theorem flw_def (n : Int) : fbase 1000 [.i 1, .i n, .i 0] = flw n := rfl
theorem limQ_def (a b : Int) : fbase 1001 [.i 3, .i 1, .i (flw a), .i (flw b)] = limQ a b := rfl
theorem limF_def (a b : Int) : fbase 1001 [.i 2, .i 1, .i 4616189618054758400, .i (limQ a b)] = limF a b := rfl
theorem limW_def (a b c : Int) : fbase 1001 [.i 2, .i 1, .i (limF a b), .i (flw c)] = limW a b c := rfl
theorem lim4_def (a b c : Int) : fbase 1002 [.i 1, .i (limW a b c)] = lim4 a b c := rfl
theorem and_d (x y : SB) : (SB.and x y).den E = (x.den E && y.den E) := rfl
theorem not_d (x : SB) : (SB.not x).den E = !(x.den E) := rfl
theorem and_t {x y : SB} : (SB.and x y).den E = true ↔ x.den E = true ∧ y.den E = true := by rw [and_d, Bool.and_eq_true]
theorem and_f {x y : SB} : (SB.and x y).den E = false ↔ ¬ (x.den E = true ∧ y.den E = true) := by rw [and_d, ← Bool.and_eq_true, Bool.not_eq_true]
theorem eq_d (x y : SE) : (SB.eq x y).den E = (x.den E == y.den E) := rfl
theorem imx_max (a b : Int) : imx a b = max a b := by unfold imx; split <;> omega
theorem imn_min (a b : Int) : imn a b = min a b := by unfold imn; split <;> omega
theorem b2i_iff {b : Bool} {p : Prop} [Decidable p] : b2i b = (if p then 1 else 0) ↔ (b = true ↔ p) := by
  by_cases hp : p <;> cases b <;> simp [b2i, hp]
theorem noFacts : ∀ {l : List Alt}, (∀ a ∈ l, a.facts = []) → ∀ a, altSel E l = some a → Facts E a.facts
  | [], _, a, h => by cases h
  | x :: r, hl, a, h => by
    simp only [altSel] at h
    split at h
    · obtain rfl := Option.some.inj h
      rw [hl x (by simp)]
      intro q hq; cases hq
    · exact noFacts (fun b hb => hl b (by simp [hb])) a h
theorem prmM_ok (E : Env) (hE : E.fn = fns) : PrmOk E (prmM Tryd.prog) where
  ct := by intro c hc; cases hc
  mix := by kernel_rfl
  okf := okf_call
  body := okf_body
  mts := by intro x hx; cases hx
  dfr := by intro x hx; cases hx
  dfk := by intro x hx; cases hx
end Go.Proofs.YtpjifimjoinnnaaDoor
