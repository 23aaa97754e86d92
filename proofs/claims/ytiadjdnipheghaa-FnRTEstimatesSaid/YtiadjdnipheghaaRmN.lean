/- The RTTs behind a row of samples, in plain numbers. -/
import Derived.Test.YtiadjdnipheghaaSyQ
set_option linter.unusedVariables false
set_option linter.unusedSimpArgs false
namespace Go.Proofs.Ytiadjdnipheghaa
open Go Go.Sy

def uMn (has : Bool) (mn s : Int) : Int := if has = true then (if s < mn then s else mn) else s
def uX (mn' s d : Int) : Int := if d ≤ s - mn' then s - d else s
def uSm (has : Bool) (sm x : Int) : Int := if has = true then (sm / 1000 * 7 + x / 1000) / 8 * 1000 else x
def uDev (has : Bool) (dev sm x : Int) : Int := if has = true then (3 * (dev / 1000) + (if x ≤ sm then sm - x else x - sm) / 1000) / 4 * 1000 else x / 2
theorem tdn {a b : Int} (h : 0 ≤ a) : a.tdiv b = a / b := Int.tdiv_eq_ediv_of_nonneg h
theorem tmn {a b : Int} (h : 0 ≤ a) : a.tmod b = a % b := Int.tmod_eq_emod_of_nonneg h
structure RR where
  has : Bool
  mn : Int
  lat : Int
  sm : Int
  dev : Int
def rr0 : RR := ⟨false, 100000000, 100000000, 100000000, 0⟩
def rStep (r : RR) (s d : Int) : RR := ⟨true, uMn r.has r.mn s, uX (uMn r.has r.mn s) s d, uSm r.has r.sm (uX (uMn r.has r.mn s) s d), uDev r.has r.dev r.sm (uX (uMn r.has r.mn s) s d)⟩
def rAt (st : Nat → Int) : Nat → RR
  | 0 => rr0
  | i + 1 => rStep (rAt st i) (st (2 * i)) (st (2 * i + 1))
def rOut (r : RR) (mad : Int) : Nat → Int
  | 0 => r.sm
  | 1 => r.lat
  | 2 => r.mn
  | 3 => r.dev
  | 4 => r.sm + imx (4 * r.dev) 1000000
  | _ => r.sm + imx (4 * r.dev) 1000000 + mad
def outA (st : Nat → Int) (mad : Int) (j : Nat) : Int := rOut (rAt st (j / 6 + 1)) mad (j % 6)
def stOk (st : Nat → Int) (n : Nat) : Prop := ∀ i, i < n → (1000 ≤ st (2 * i) ∧ st (2 * i) ≤ 2000000000) ∧ 0 ≤ st (2 * i + 1) ∧ st (2 * i + 1) ≤ 100000000
def RR.ok (r : RR) : Prop := (0 < r.mn ∧ r.mn ≤ 2000000000) ∧ (0 ≤ r.sm ∧ r.sm ≤ 2000000000) ∧ 0 ≤ r.dev ∧ r.dev ≤ 2000000000
theorem uX_ok {mn s d : Int} (h0 : 0 < mn) (h1 : mn ≤ s) (s1 : s ≤ 2000000000) (d0 : 0 ≤ d) : 0 < uX mn s d ∧ uX mn s d ≤ 2000000000 := by
  unfold uX; split <;> omega
theorem uMn_ok {has : Bool} {mn s : Int} (h0 : 0 < mn) (s0 : 0 < s) : 0 < uMn has mn s ∧ uMn has mn s ≤ s := by
  unfold uMn; cases has <;> simp <;> (repeat' split) <;> omega
theorem rStep_ok {r : RR} {s d : Int} (h : r.ok) (s0 : 1000 ≤ s) (s1 : s ≤ 2000000000) (d0 : 0 ≤ d) (d1 : d ≤ 100000000) : (rStep r s d).ok := by
  obtain ⟨⟨m0, m1⟩, ⟨q0, q1⟩, v0, v1⟩ := h
  obtain ⟨a0, a1⟩ := uMn_ok (has := r.has) m0 (show 0 < s by omega)
  obtain ⟨b0, b1⟩ := uX_ok a0 a1 s1 d0
  refine ⟨⟨a0, Int.le_trans a1 s1⟩, ?_, ?_⟩
  · show 0 ≤ uSm r.has r.sm (uX (uMn r.has r.mn s) s d) ∧ uSm r.has r.sm (uX (uMn r.has r.mn s) s d) ≤ _
    generalize uX (uMn r.has r.mn s) s d = x at b0 b1
    unfold uSm; cases r.has <;> simp <;> omega
  · show 0 ≤ uDev r.has r.dev r.sm (uX (uMn r.has r.mn s) s d) ∧ uDev r.has r.dev r.sm (uX (uMn r.has r.mn s) s d) ≤ _
    generalize uX (uMn r.has r.mn s) s d = x at b0 b1
    unfold uDev; cases r.has <;> simp <;> (repeat' split) <;> omega
theorem rAt_ok {st : Nat → Int} {n : Nat} (h : stOk st n) : ∀ i, i ≤ n → (rAt st i).ok
  | 0, _ => by show rr0.ok; exact ⟨⟨by decide, by decide⟩, ⟨by decide, by decide⟩, by decide, by decide⟩
  | i + 1, hi => by
    obtain ⟨⟨a, b⟩, c, d⟩ := h i (by omega)
    exact rStep_ok (rAt_ok h i (by omega)) a b c d
theorem rAt_has (st : Nat → Int) (i : Nat) (h : 0 < i) : (rAt st i).has = true := by
  cases i with
  | zero => omega
  | succ i => rfl
end Go.Proofs.Ytiadjdnipheghaa
