/- What the specification's rows hold, in plain numbers. -/
import Derived.Test.YtjanndmmhjnpcaaDoorQcR
import Derived.Test.YtjanndmmhjnpcaaDoorQcHa
set_option autoImplicit true
set_option relaxedAutoImplicit true
set_option linter.unusedVariables false
set_option linter.unusedSimpArgs false
namespace Go.Proofs.YtjanndmmhjnpcaaDoor
open Go Go.Sy
theorem stq_congr {S S' : Nat → Int} {r : Int} : ∀ i, (∀ j, j < i * 5 → S j = S' j) → stq S r i = stq S' r i
  | 0, _ => rfl
  | i + 1, h => by
    show (stq S r i).step r _ _ _ = (stq S' r i).step r _ _ _
    rw [stq_congr i fun j hj => h j (by omega), h (i * 5) (by omega), h (i * 5 + 1) (by omega), h (i * 5 + 2) (by omega)]
theorem code_congr {S S' : Nat → Int} {r : Int} {i : Nat} (h : ∀ j, j < (i + 1) * 5 → S j = S' j) : codeAt S r i = codeAt S' r i ∧ retAt S r i = retAt S' r i ∧ (stq S r (i + 1)).act = (stq S' r (i + 1)).act := by
  unfold codeAt retAt
  rw [stq_congr i fun j hj => h j (by omega), stq_congr (i + 1) h, h (i * 5) (by omega), h (i * 5 + 1) (by omega), h (i * 5 + 2) (by omega)]
  exact ⟨rfl, rfl, rfl⟩
theorem SOk.congr {S S' : Nat → Int} {m : Nat} (hS : SOk S m) (h : ∀ j, j < m * 5 → S j = S' j) : SOk S' m := fun i hi => by
  have := hS i hi
  rw [h (i * 5) (by omega), h (i * 5 + 1) (by omega), h (i * 5 + 2) (by omega), h (i * 5 + 3) (by omega), h (i * 5 + 4) (by omega)] at this
  exact this
theorem SOk.less {S : Nat → Int} {m n : Nat} (hS : SOk S n) (h : m ≤ n) : SOk S m := fun i hi => hS i (by omega)
structure RowAt (S : Nat → Int) (r : Int) (C U L K : Nat → Int) (j : Nat) : Prop where
  c : C j = codeAt S r j
  u : U j = (stq S r (j + 1)).act
  l : L j = ((retAt S r j).length : Int)
  k : ∀ t, t < (retAt S r j).length → K (j * 64 + t) = arr (retAt S r j) t
def Rows4 (S : Nat → Int) (r : Int) (C U L K : Nat → Int) (m : Nat) : Prop := ∀ j, j < m → RowAt S r C U L K j
theorem Rows4.congr {S S' : Nat → Int} {r : Int} {C U L K : Nat → Int} {m : Nat} (h : Rows4 S r C U L K m) (hS : ∀ j, j < m * 5 → S j = S' j) : Rows4 S' r C U L K m := fun j hj => by
  obtain ⟨a, b, c⟩ := code_congr (r := r) (i := j) (S := S) (S' := S') fun t ht => hS t (by omega)
  have := h j hj
  exact ⟨by rw [← a]; exact this.c, by rw [← c]; exact this.u, by rw [← b]; exact this.l, by rw [← b]; exact this.k⟩
theorem ret_le {S : Nat → Int} {n : Nat} (hS : SOk S n) {r : Int} (hr : 0 ≤ r) (hn : n ≤ 50) {i : Nat} (hi : i < n) : (retAt S r i).length ≤ 64 := by
  have := col_len hS hr hn (k := i * 3 + 0) (by omega)
  rw [colL_at _ _ _ _ (by decide), Int.toNat_natCast] at this
  exact this
theorem Rows4.snoc {S : Nat → Int} {r : Int} {C U L K C' U' L' K' : Nat → Int} {i : Nat} (h : Rows4 S r C U L K i) (h64 : ∀ j, j < i → (retAt S r j).length ≤ 64)
    (hC : ∀ j, j < i → C' j = C j) (hU : ∀ j, j < i → U' j = U j) (hL : ∀ j, j < i → L' j = L j) (hK : ∀ t, t < i * 64 → K' t = K t) (hi : RowAt S r C' U' L' K' i) : Rows4 S r C' U' L' K' (i + 1) := fun j hj => by
  rcases Nat.lt_or_ge j i with h1 | h1
  · have := h j h1
    have h2 := h64 j h1
    exact ⟨by rw [hC j h1]; exact this.c, by rw [hU j h1]; exact this.u, by rw [hL j h1]; exact this.l, fun t ht => by
      have : j * 64 + t < i * 64 := by omega
      rw [hK _ this]
      exact (h j h1).k t ht⟩
  · have : j = i := by omega
    subst this; exact hi
theorem step_lt4 {s : QS} {r k sq pr : Int} (h : s.q.length ≤ 3) (hc : s.code k sq pr = 0) : (s.step r k sq pr).q.length ≤ 3 := by
  unfold QS.code at hc
  unfold QS.step
  by_cases h0 : k = 0
  · rw [if_pos h0]
    show (adQ _ _ _ _ _).length ≤ 3
    by_cases h4 : 4 ≤ (adQ s.q s.act s.hi sq pr).length
    · rw [if_pos ⟨h0, h4⟩] at hc; cases hc
    · omega
  · rw [if_neg h0]
    by_cases h1 : k = 1
    · rw [if_pos h1]; exact h
    · rw [if_neg h1]
      by_cases h2 : k = 2
      · rw [if_pos h2]
        cases hs : s.sh with
        | true => simp only [if_true, List.length_tail]; omega
        | false => simp only [Bool.false_eq_true, if_false]; exact h
      · rw [if_neg h2]; exact h
end Go.Proofs.YtjanndmmhjnpcaaDoor
