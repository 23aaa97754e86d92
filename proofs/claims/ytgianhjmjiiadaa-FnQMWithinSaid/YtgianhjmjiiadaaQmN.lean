/- Ranges of numbers that were received, in plain numbers: range i is from A (2 i) to A (2 i + 1). -/
import Derived.Test.YtgianhjmjiiadaaSyQ
set_option autoImplicit true
set_option relaxedAutoImplicit true
set_option linter.unusedVariables false
set_option linter.unusedSimpArgs false
namespace Go.Proofs.Ytgianhjmjiiadaa
open Go Go.Sy
def kR (A : Nat → Int) (p : Int) : Nat → Nat
  | 0 => 0
  | n + 1 => if A (n * 2) ≤ p + 1 then n + 1 else kR A p n
theorem kR_le (A : Nat → Int) (p : Int) : ∀ n, kR A p n ≤ n
  | 0 => Nat.le_refl _
  | n + 1 => by
    unfold kR
    split
    · exact Nat.le_refl _
    · have := kR_le A p n; omega
theorem kR_at (A : Nat → Int) (p : Int) : ∀ n k, kR A p n = k + 1 → A (k * 2) ≤ p + 1
  | 0, k, h => by cases h
  | n + 1, k, h => by
    unfold kR at h
    split at h
    · have : k = n := by omega
      subst this; assumption
    · exact kR_at A p n k h
theorem kR_gt (A : Nat → Int) (p : Int) : ∀ n j, kR A p n ≤ j → j < n → p + 1 < A (j * 2)
  | 0, j, _, h => by omega
  | n + 1, j, h, hj => by
    unfold kR at h
    split at h
    · omega
    · rcases Nat.lt_or_ge j n with h1 | h1
      · exact kR_gt A p n j h h1
      · have : j = n := by omega
        subst this; omega
theorem kR_eq {A : Nat → Int} {p : Int} {n k : Nat} (hk : k ≤ n) (h1 : ∀ j, k ≤ j → j < n → p + 1 < A (j * 2)) (h2 : 0 < k → A ((k - 1) * 2) ≤ p + 1) : kR A p n = k := by
  rcases Nat.lt_trichotomy (kR A p n) k with h | h | h
  · have := kR_gt A p n (k - 1) (by omega) (by omega)
    have := h2 (by omega)
    omega
  · exact h
  · obtain ⟨t, ht⟩ : ∃ t, kR A p n = t + 1 := ⟨kR A p n - 1, by omega⟩
    have := kR_at A p n t ht
    have := kR_le A p n
    have := h1 t (by omega) (by omega)
    omega
def upd (A : Nat → Int) (t : Nat) (x : Int) (j : Nat) : Int := if j = t then x else A j
def ins2 (A : Nat → Int) (n k : Nat) (s e : Int) (j : Nat) : Int := if j < k * 2 then A j else if j = k * 2 then s else if j = k * 2 + 1 then e else if j < (n + 1) * 2 then A (j - 2) else 0
def del2 (A : Nat → Int) (i m : Nat) (j : Nat) : Int := if j < i * 2 then A j else A (j + m * 2)
structure Rg (A : Nat → Int) (n : Nat) : Prop where
  le : ∀ i, i < n → A (i * 2) ≤ A (i * 2 + 1)
  gap : ∀ i j, i < j → j < n → A (i * 2 + 1) + 1 < A (j * 2)
  lo : ∀ i, i < n → 0 ≤ A (i * 2)
  hi : ∀ i, i < n → A (i * 2 + 1) ≤ 1000
def Mem (A : Nat → Int) (n : Nat) (x : Int) : Prop := ∃ i, i < n ∧ A (i * 2) ≤ x ∧ x ≤ A (i * 2 + 1)
def dupR (A : Nat → Int) (k : Nat) (p : Int) : Bool := decide (A (k * 2) ≤ p ∧ p ≤ A (k * 2 + 1))
def addB (A : Nat → Int) (n : Nat) (p : Int) : Bool := match kR A p n with
  | 0 => true
  | k + 1 => !dupR A k p
def addN (A : Nat → Int) (n : Nat) (p : Int) : Nat := match kR A p n with
  | 0 => n + 1
  | k + 1 => if dupR A k p then n else if A (k * 2 + 1) = p - 1 then n else if A (k * 2) = p + 1 then (if 0 < k ∧ A ((k - 1) * 2 + 1) + 1 = p then n - 1 else n) else n + 1
def addA (A : Nat → Int) (n : Nat) (p : Int) : Nat → Int := match kR A p n with
  | 0 => ins2 A n 0 p p
  | k + 1 => if dupR A k p then A else if A (k * 2 + 1) = p - 1 then upd A (k * 2 + 1) p else if A (k * 2) = p + 1 then (if 0 < k ∧ A ((k - 1) * 2 + 1) + 1 = p then del2 (upd A ((k - 1) * 2 + 1) (A (k * 2 + 1))) k 1 else upd A (k * 2) p) else ins2 A n (k + 1) p p
theorem upd_ne {A : Nat → Int} {t j : Nat} {x : Int} (h : j ≠ t) : upd A t x j = A j := if_neg h
theorem upd_eq (A : Nat → Int) (t : Nat) (x : Int) : upd A t x t = x := if_pos rfl
theorem rg_end {A : Nat → Int} {n k : Nat} {p : Int} (h : Rg A n) (hk : k < n) (he : A (k * 2 + 1) = p - 1) (hg : ∀ j, k < j → j < n → p + 1 < A (j * 2)) (hp : p ≤ 1000) :
    Rg (upd A (k * 2 + 1) p) n ∧ ∀ x, Mem (upd A (k * 2 + 1) p) n x ↔ Mem A n x ∨ x = p := by
  have e0 : ∀ i, upd A (k * 2 + 1) p (i * 2) = A (i * 2) := fun i => upd_ne (by omega)
  have e1 : ∀ i, i ≠ k → upd A (k * 2 + 1) p (i * 2 + 1) = A (i * 2 + 1) := fun i hi => upd_ne (by omega)
  have e2 : upd A (k * 2 + 1) p (k * 2 + 1) = p := upd_eq _ _ _
  have hkk := h.le k hk
  refine ⟨⟨fun i hi => ?_, fun i j hij hj => ?_, fun i hi => by rw [e0]; exact h.lo i hi, fun i hi => ?_⟩, fun x => ⟨?_, ?_⟩⟩
  · rw [e0]
    by_cases c : i = k
    · subst c; rw [e2]; omega
    · rw [e1 i c]; exact h.le i hi
  · rw [e0]
    by_cases c : i = k
    · subst c; rw [e2]; exact hg j hij hj
    · rw [e1 i c]; exact h.gap i j hij hj
  · by_cases c : i = k
    · subst c; rw [e2]; exact hp
    · rw [e1 i c]; exact h.hi i hi
  · rintro ⟨i, hi, a, b⟩
    rw [e0] at a
    by_cases c : i = k
    · subst c
      rw [e2] at b
      by_cases d : x = p
      · exact .inr d
      · exact .inl ⟨i, hi, a, by omega⟩
    · rw [e1 i c] at b; exact .inl ⟨i, hi, a, b⟩
  · rintro (⟨i, hi, a, b⟩ | rfl)
    · refine ⟨i, hi, by rw [e0]; exact a, ?_⟩
      by_cases c : i = k
      · subst c; rw [e2]; omega
      · rw [e1 i c]; exact b
    · exact ⟨k, hk, by rw [e0]; omega, by rw [e2]; exact Int.le_refl _⟩
theorem rg_start {A : Nat → Int} {n k : Nat} {p : Int} (h : Rg A n) (hk : k < n) (he : A (k * 2) = p + 1) (hg : 0 < k → ¬ A ((k - 1) * 2 + 1) + 1 = p) (hp : 0 ≤ p) :
    Rg (upd A (k * 2) p) n ∧ ∀ x, Mem (upd A (k * 2) p) n x ↔ Mem A n x ∨ x = p := by
  have e1 : ∀ i, upd A (k * 2) p (i * 2 + 1) = A (i * 2 + 1) := fun i => upd_ne (by omega)
  have e0 : ∀ i, i ≠ k → upd A (k * 2) p (i * 2) = A (i * 2) := fun i hi => upd_ne (by omega)
  have e2 : upd A (k * 2) p (k * 2) = p := upd_eq _ _ _
  have hkk := h.le k hk
  refine ⟨⟨fun i hi => ?_, fun i j hij hj => ?_, fun i hi => ?_, fun i hi => by rw [e1]; exact h.hi i hi⟩, fun x => ⟨?_, ?_⟩⟩
  · rw [e1]
    by_cases c : i = k
    · subst c; rw [e2]; omega
    · rw [e0 i c]; exact h.le i hi
  · rw [e1]
    by_cases c : j = k
    · subst c
      rw [e2]
      have g1 := h.gap i j hij hj
      by_cases d : i = j - 1
      · subst d
        have := hg (by omega)
        omega
      · have g2 := h.gap i (j - 1) (by omega) (by omega)
        have g3 := h.gap (j - 1) j (by omega) hj
        have g4 := h.le (j - 1) (by omega)
        omega
    · rw [e0 j c]; exact h.gap i j hij hj
  · by_cases c : i = k
    · subst c; rw [e2]; exact hp
    · rw [e0 i c]; exact h.lo i hi
  · rintro ⟨i, hi, a, b⟩
    rw [e1] at b
    by_cases c : i = k
    · subst c
      rw [e2] at a
      by_cases d : x = p
      · exact .inr d
      · exact .inl ⟨i, hi, by omega, b⟩
    · rw [e0 i c] at a; exact .inl ⟨i, hi, a, b⟩
  · rintro (⟨i, hi, a, b⟩ | rfl)
    · refine ⟨i, hi, ?_, by rw [e1]; exact b⟩
      by_cases c : i = k
      · subst c; rw [e2]; omega
      · rw [e0 i c]; exact a
    · exact ⟨k, hk, by rw [e2]; exact Int.le_refl _, by rw [e1]; omega⟩
theorem rg_merge {A : Nat → Int} {n k : Nat} {p : Int} (h : Rg A n) (hk : k < n) (h0 : 0 < k) (he : A (k * 2) = p + 1) (hm : A ((k - 1) * 2 + 1) + 1 = p) :
    Rg (del2 (upd A ((k - 1) * 2 + 1) (A (k * 2 + 1))) k 1) (n - 1) ∧ ∀ x, Mem (del2 (upd A ((k - 1) * 2 + 1) (A (k * 2 + 1))) k 1) (n - 1) x ↔ Mem A n x ∨ x = p := by
  obtain ⟨B, hB⟩ : ∃ B, B = del2 (upd A ((k - 1) * 2 + 1) (A (k * 2 + 1))) k 1 := ⟨_, rfl⟩
  rw [← hB]
  have l0 : ∀ i, i < k → B (i * 2) = A (i * 2) := fun i hi => by
    rw [hB]; unfold del2; rw [if_pos (by omega), upd_ne (by omega)]
  have l1 : ∀ i, i + 1 < k → B (i * 2 + 1) = A (i * 2 + 1) := fun i hi => by
    rw [hB]; unfold del2; rw [if_pos (by omega), upd_ne (by omega)]
  have l2 : B ((k - 1) * 2 + 1) = A (k * 2 + 1) := by
    rw [hB]; unfold del2; rw [if_pos (by omega), upd_eq]
  have g0 : ∀ i, k ≤ i → B (i * 2) = A ((i + 1) * 2) := fun i hi => by
    rw [hB]; unfold del2; rw [if_neg (by omega), upd_ne (by omega)]; congr 1; omega
  have g1 : ∀ i, k ≤ i → B (i * 2 + 1) = A ((i + 1) * 2 + 1) := fun i hi => by
    rw [hB]; unfold del2; rw [if_neg (by omega), upd_ne (by omega)]; congr 1; omega
  have hkk := h.le k hk
  have hk1 := h.le (k - 1) (by omega)
  refine ⟨⟨fun i hi => ?_, fun i j hij hj => ?_, fun i hi => ?_, fun i hi => ?_⟩, fun x => ⟨?_, ?_⟩⟩
  · rcases (by omega : i + 1 < k ∨ i = k - 1 ∨ k ≤ i) with c | c | c
    · rw [l0 i (by omega), l1 i c]; exact h.le i (by omega)
    · subst c; rw [l0 _ (by omega), l2]; omega
    · rw [g0 i c, g1 i c]; exact h.le (i + 1) (by omega)
  · rcases (by omega : i + 1 < k ∨ i = k - 1 ∨ k ≤ i) with c | c | c
    · rw [l1 i c]
      rcases Nat.lt_or_ge j k with d | d
      · rw [l0 j d]; exact h.gap i j hij (by omega)
      · rw [g0 j d]; exact h.gap i (j + 1) (by omega) (by omega)
    · subst c
      rw [l2, g0 j (by omega)]; exact h.gap k (j + 1) (by omega) (by omega)
    · rw [g1 i c, g0 j (by omega)]; exact h.gap (i + 1) (j + 1) (by omega) (by omega)
  · rcases Nat.lt_or_ge i k with c | c
    · rw [l0 i c]; exact h.lo i (by omega)
    · rw [g0 i c]; exact h.lo (i + 1) (by omega)
  · rcases (by omega : i + 1 < k ∨ i = k - 1 ∨ k ≤ i) with c | c | c
    · rw [l1 i c]; exact h.hi i (by omega)
    · subst c; rw [l2]; exact h.hi k hk
    · rw [g1 i c]; exact h.hi (i + 1) (by omega)
  · rintro ⟨i, hi, a, b⟩
    rcases (by omega : i + 1 < k ∨ i = k - 1 ∨ k ≤ i) with c | c | c
    · rw [l0 i (by omega)] at a; rw [l1 i c] at b; exact .inl ⟨i, by omega, a, b⟩
    · subst c
      rw [l0 _ (by omega)] at a; rw [l2] at b
      by_cases d : x = p
      · exact .inr d
      · rcases Int.lt_or_le x p with e | e
        · exact .inl ⟨k - 1, by omega, a, by omega⟩
        · exact .inl ⟨k, hk, by omega, b⟩
    · rw [g0 i c] at a; rw [g1 i c] at b; exact .inl ⟨i + 1, by omega, a, b⟩
  · rintro (⟨i, hi, a, b⟩ | rfl)
    · rcases (by omega : i + 1 < k ∨ i = k - 1 ∨ i = k ∨ k < i) with c | c | c | c
      · exact ⟨i, by omega, by rw [l0 i (by omega)]; exact a, by rw [l1 i c]; exact b⟩
      · subst c; exact ⟨k - 1, by omega, by rw [l0 _ (by omega)]; exact a, by rw [l2]; omega⟩
      · subst c
        have g := h.gap (i - 1) i (by omega) hk
        exact ⟨i - 1, by omega, by rw [l0 _ (by omega)]; omega, by rw [l2]; exact b⟩
      · exact ⟨i - 1, by omega, by rw [g0 _ (by omega), show i - 1 + 1 = i by omega]; exact a, by rw [g1 _ (by omega), show i - 1 + 1 = i by omega]; exact b⟩
    · exact ⟨k - 1, by omega, by rw [l0 _ (by omega)]; omega, by rw [l2]; omega⟩
theorem rg_ins {A : Nat → Int} {n k : Nat} {p : Int} (h : Rg A n) (hk : k ≤ n) (hb : ∀ j, j < k → A (j * 2 + 1) + 1 < p) (ha : ∀ j, k ≤ j → j < n → p + 1 < A (j * 2)) (h0 : 0 ≤ p) (hp : p ≤ 1000) :
    Rg (ins2 A n k p p) (n + 1) ∧ ∀ x, Mem (ins2 A n k p p) (n + 1) x ↔ Mem A n x ∨ x = p := by
  obtain ⟨B, hB⟩ : ∃ B, B = ins2 A n k p p := ⟨_, rfl⟩
  rw [← hB]
  have l0 : ∀ i, i < k → B (i * 2) = A (i * 2) ∧ B (i * 2 + 1) = A (i * 2 + 1) := fun i hi => by
    rw [hB]; unfold ins2; exact ⟨if_pos (by omega), if_pos (by omega)⟩
  have m0 : B (k * 2) = p ∧ B (k * 2 + 1) = p := by
    rw [hB]; unfold ins2
    rw [if_neg (by omega), if_pos rfl, if_neg (by omega), if_neg (by omega), if_pos rfl]
    exact ⟨rfl, rfl⟩
  have g0 : ∀ i, k < i → i < n + 1 → B (i * 2) = A ((i - 1) * 2) ∧ B (i * 2 + 1) = A ((i - 1) * 2 + 1) := fun i hi hn => by
    rw [hB]; unfold ins2
    rw [if_neg (by omega), if_neg (by omega), if_neg (by omega), if_pos (by omega), if_neg (by omega), if_neg (by omega), if_neg (by omega), if_pos (by omega)]
    exact ⟨by congr 1; omega, by congr 1; omega⟩
  refine ⟨⟨fun i hi => ?_, fun i j hij hj => ?_, fun i hi => ?_, fun i hi => ?_⟩, fun x => ⟨?_, ?_⟩⟩
  · rcases (by omega : i < k ∨ i = k ∨ k < i) with c | c | c
    · rw [(l0 i c).1, (l0 i c).2]; exact h.le i (by omega)
    · subst c; rw [m0.1, m0.2]; exact Int.le_refl _
    · rw [(g0 i c hi).1, (g0 i c hi).2]; exact h.le (i - 1) (by omega)
  · rcases (by omega : i < k ∨ i = k ∨ k < i) with c | c | c
    · rw [(l0 i c).2]
      rcases (by omega : j < k ∨ j = k ∨ k < j) with d | d | d
      · rw [(l0 j d).1]; exact h.gap i j hij (by omega)
      · subst d; rw [m0.1]; exact hb i c
      · rw [(g0 j d hj).1]
        rcases Nat.lt_or_ge i (j - 1) with e | e
        · exact h.gap i (j - 1) e (by omega)
        · omega
    · subst c
      rw [m0.2, (g0 j (by omega) hj).1]; exact ha (j - 1) (by omega) (by omega)
    · rw [(g0 i c (by omega)).2, (g0 j (by omega) hj).1]; exact h.gap (i - 1) (j - 1) (by omega) (by omega)
  · rcases (by omega : i < k ∨ i = k ∨ k < i) with c | c | c
    · rw [(l0 i c).1]; exact h.lo i (by omega)
    · subst c; rw [m0.1]; exact h0
    · rw [(g0 i c hi).1]; exact h.lo (i - 1) (by omega)
  · rcases (by omega : i < k ∨ i = k ∨ k < i) with c | c | c
    · rw [(l0 i c).2]; exact h.hi i (by omega)
    · subst c; rw [m0.2]; exact hp
    · rw [(g0 i c hi).2]; exact h.hi (i - 1) (by omega)
  · rintro ⟨i, hi, a, b⟩
    rcases (by omega : i < k ∨ i = k ∨ k < i) with c | c | c
    · rw [(l0 i c).1] at a; rw [(l0 i c).2] at b; exact .inl ⟨i, by omega, a, b⟩
    · subst c; rw [m0.1] at a; rw [m0.2] at b; exact .inr (by omega)
    · rw [(g0 i c hi).1] at a; rw [(g0 i c hi).2] at b; exact .inl ⟨i - 1, by omega, a, b⟩
  · rintro (⟨i, hi, a, b⟩ | rfl)
    · rcases Nat.lt_or_ge i k with c | c
      · exact ⟨i, by omega, by rw [(l0 i c).1]; exact a, by rw [(l0 i c).2]; exact b⟩
      · obtain ⟨g1, g2⟩ := g0 (i + 1) (by omega) (by omega)
        rw [Nat.add_sub_cancel] at g1 g2
        exact ⟨i + 1, by omega, by rw [g1]; exact a, by rw [g2]; exact b⟩
    · exact ⟨k, by omega, by rw [m0.1]; exact Int.le_refl _, by rw [m0.2]; exact Int.le_refl _⟩
theorem add_ok {A : Nat → Int} {n : Nat} {p : Int} (h : Rg A n) (h0 : 0 ≤ p) (hp : p ≤ 1000) :
    Rg (addA A n p) (addN A n p) ∧ (∀ x, Mem (addA A n p) (addN A n p) x ↔ Mem A n x ∨ x = p) ∧ (addB A n p = true ↔ ¬ Mem A n p) ∧ addN A n p ≤ n + 1 := by
  unfold addA addN addB
  have hkl := kR_le A p n
  have hgt := kR_gt A p n
  cases hk : kR A p n with
  | zero =>
    rw [hk] at hgt
    obtain ⟨a, b⟩ := rg_ins h (Nat.zero_le _) (fun j hj => absurd hj (Nat.not_lt_zero _)) (fun j h1 h2 => hgt j h1 h2) h0 hp
    refine ⟨a, b, ⟨fun _ => ?_, fun _ => rfl⟩, Nat.le_refl _⟩
    rintro ⟨i, hi, c, d⟩
    have := hgt i (Nat.zero_le _) hi
    omega
  | succ k =>
    have hat := kR_at A p n k hk
    rw [hk] at hgt hkl
    have hkn : k < n := by omega
    simp only
    have low : ∀ j, j < k → A (j * 2 + 1) + 1 < A (k * 2) := fun j hj => h.gap j k hj hkn
    cases hd : dupR A k p with
    | true =>
      have hd' : A (k * 2) ≤ p ∧ p ≤ A (k * 2 + 1) := by simpa [dupR] using hd
      simp only [if_true]
      refine ⟨h, fun x => ⟨.inl, ?_⟩, ⟨fun h => (by cases h), fun hh => absurd ⟨k, hkn, hd'.1, hd'.2⟩ hh⟩, by omega⟩
      rintro (h | rfl)
      · exact h
      · exact ⟨k, hkn, hd'.1, hd'.2⟩
    | false =>
      have hd' : ¬ (A (k * 2) ≤ p ∧ p ≤ A (k * 2 + 1)) := by simpa [dupR] using hd
      simp only [Bool.false_eq_true, if_false]
      have hnm : ¬ Mem A n p := by
        rintro ⟨i, hi, c, d⟩
        rcases (by omega : i < k ∨ i = k ∨ k < i) with e | e | e
        · have := low i e
          have := h.le k hkn
          have := h.le i (by omega)
          rcases Int.lt_or_le p (A (k * 2)) with f | f
          · omega
          · omega
        · subst e; exact hd' ⟨c, d⟩
        · have := hgt i (by omega) hi; omega
      by_cases c1 : A (k * 2 + 1) = p - 1
      · simp only [if_pos c1]
        obtain ⟨a, b⟩ := rg_end h hkn c1 (fun j h1 h2 => hgt j (by omega) h2) hp
        exact ⟨a, b, ⟨fun _ => hnm, fun _ => rfl⟩, by omega⟩
      · simp only [if_neg c1]
        by_cases c2 : A (k * 2) = p + 1
        · simp only [if_pos c2]
          by_cases c3 : 0 < k ∧ A ((k - 1) * 2 + 1) + 1 = p
          · simp only [if_pos c3]
            obtain ⟨a, b⟩ := rg_merge h hkn c3.1 c2 c3.2
            exact ⟨a, b, ⟨fun _ => hnm, fun _ => rfl⟩, by omega⟩
          · simp only [if_neg c3]
            obtain ⟨a, b⟩ := rg_start h hkn c2 (fun h1 h2 => c3 ⟨h1, h2⟩) h0
            exact ⟨a, b, ⟨fun _ => hnm, fun _ => rfl⟩, by omega⟩
        · simp only [if_neg c2]
          have hkk := h.le k hkn
          obtain ⟨a, b⟩ := rg_ins (k := k + 1) (p := p) h hkn (fun j hj => by
            rcases (by omega : j < k ∨ j = k) with e | e
            · have := low j e; have := h.le j (by omega); omega
            · subst e; omega) (fun j h1 h2 => hgt j h1 h2) h0 hp
          exact ⟨a, b, ⟨fun _ => hnm, fun _ => rfl⟩, Nat.le_refl _⟩
def hmR (A : Nat → Int) (q d : Int) : Nat → Int
  | 0 => q
  | i + 1 => if A (i * 2) ≤ q ∧ q ≤ A (i * 2 + 1) then (if d ≠ -1 ∧ A (i * 2) - 1 < d then -1 else A (i * 2) - 1) else if 1 ≤ i ∧ A ((i - 1) * 2 + 1) < q ∧ q ≤ A (i * 2) then q else hmR A q d i
def hm (A : Nat → Int) (n : Nat) (p d : Int) : Int := if n = 0 ∨ (d ≠ -1 ∧ p < d) then -1 else hmR A (min (A ((n - 1) * 2 + 1)) p) d n
def dkR (A : Nat → Int) (p : Int) : Nat → Nat
  | 0 => 0
  | n + 1 => if A (n * 2 + 1) < p then n + 1 else dkR A p n
def cutA (A : Nat → Int) (n : Nat) (p : Int) : Nat → Int := if dkR A p n < n ∧ A (dkR A p n * 2) < p then upd (del2 A 0 (dkR A p n)) 0 p else del2 A 0 (dkR A p n)
theorem dkR_le (A : Nat → Int) (p : Int) : ∀ n, dkR A p n ≤ n
  | 0 => Nat.le_refl _
  | n + 1 => by
    unfold dkR
    split
    · exact Nat.le_refl _
    · have := dkR_le A p n; omega
theorem dkR_gt (A : Nat → Int) (p : Int) : ∀ n j, dkR A p n ≤ j → j < n → p ≤ A (j * 2 + 1)
  | 0, j, _, h => by omega
  | n + 1, j, h, hj => by
    unfold dkR at h
    split at h
    · omega
    · rcases Nat.lt_or_ge j n with h1 | h1
      · exact dkR_gt A p n j h h1
      · have : j = n := by omega
        subst this; omega
theorem dkR_at (A : Nat → Int) (p : Int) : ∀ n k, dkR A p n = k + 1 → A (k * 2 + 1) < p
  | 0, k, h => by cases h
  | n + 1, k, h => by
    unfold dkR at h
    split at h
    · have : k = n := by omega
      subst this; assumption
    · exact dkR_at A p n k h
theorem dkR_eq {A : Nat → Int} {p : Int} {n k : Nat} (hr : Rg A n) (hk : k ≤ n) (h1 : k < n → p ≤ A (k * 2 + 1)) (h2 : 0 < k → A ((k - 1) * 2 + 1) < p) : dkR A p n = k := by
  rcases Nat.lt_trichotomy (dkR A p n) k with h | h | h
  · have := dkR_gt A p n (k - 1) (by omega) (by omega)
    have := h2 (by omega)
    omega
  · exact h
  · obtain ⟨t, ht⟩ : ∃ t, dkR A p n = t + 1 := ⟨dkR A p n - 1, by omega⟩
    have h3 := dkR_at A p n t ht
    have h4 := dkR_le A p n
    have h5 := h1 (by omega)
    rcases Nat.lt_or_ge k t with h6 | h6
    · have := hr.gap k t h6 (by omega); have := hr.le t (by omega); omega
    · have : k = t := by omega
      subst this; omega
theorem cut_ok {A : Nat → Int} {n : Nat} {p : Int} (hr : Rg A n) (h0 : 0 ≤ p) (hp : p ≤ 1000) : Rg (cutA A n p) (n - dkR A p n) := by
  obtain ⟨d, hd⟩ : ∃ d, dkR A p n = d := ⟨_, rfl⟩
  have hle := dkR_le A p n
  have hgt := dkR_gt A p n
  unfold cutA
  rw [hd] at hle hgt ⊢
  have e : ∀ j, del2 A 0 d j = A (j + d * 2) := fun j => by unfold del2; rw [if_neg (by omega)]
  have e0 : ∀ i, del2 A 0 d (i * 2) = A ((i + d) * 2) := fun i => by rw [e]; congr 1; omega
  have e1 : ∀ i, del2 A 0 d (i * 2 + 1) = A ((i + d) * 2 + 1) := fun i => by rw [e]; congr 1; omega
  have base : Rg (del2 A 0 d) (n - d) := ⟨fun i hi => by rw [e0, e1]; exact hr.le _ (by omega), fun i j hij hj => by rw [e1, e0]; exact hr.gap _ _ (by omega) (by omega), fun i hi => by rw [e0]; exact hr.lo _ (by omega), fun i hi => by rw [e1]; exact hr.hi _ (by omega)⟩
  split
  · rename_i h
    have u1 : ∀ i, upd (del2 A 0 d) 0 p (i * 2 + 1) = del2 A 0 d (i * 2 + 1) := fun i => upd_ne (by omega)
    have u0 : ∀ i, 0 < i → upd (del2 A 0 d) 0 p (i * 2) = del2 A 0 d (i * 2) := fun i hi => upd_ne (by omega)
    refine ⟨fun i hi => ?_, fun i j hij hj => ?_, fun i hi => ?_, fun i hi => by rw [u1]; exact base.hi i hi⟩
    · rw [u1]
      rcases Nat.eq_zero_or_pos i with h' | h'
      · subst h'
        show upd _ 0 p 0 ≤ _
        rw [upd_eq, e1]; exact hgt _ (by omega) (by omega)
      · rw [u0 i h']; exact base.le i hi
    · rw [u1, u0 j (by omega)]; exact base.gap i j hij hj
    · rcases Nat.eq_zero_or_pos i with h' | h'
      · subst h'
        show 0 ≤ upd _ 0 p 0
        rw [upd_eq]; exact h0
      · rw [u0 i h']; exact base.lo i hi
  · exact base
def rvA (A : Nat → Int) (n j : Nat) : Int := A ((n - 1 - j / 2) * 2 + j % 2)
structure RgD (B : Nat → Int) (m : Nat) : Prop where
  le : ∀ i, i < m → B (i * 2) ≤ B (i * 2 + 1)
  gap : ∀ i j, i < j → j < m → B (j * 2 + 1) + 1 < B (i * 2)
  lo : ∀ i, i < m → 0 ≤ B (i * 2)
  hi : ∀ i, i < m → B (i * 2 + 1) ≤ 1000
theorem rgd_of {A : Nat → Int} {n : Nat} (h : Rg A n) : RgD (rvA A n) n := by
  have e0 : ∀ i, rvA A n (i * 2) = A ((n - 1 - i) * 2) := fun i => by unfold rvA; rw [show i * 2 / 2 = i by omega, show i * 2 % 2 = 0 by omega]; rfl
  have e1 : ∀ i, rvA A n (i * 2 + 1) = A ((n - 1 - i) * 2 + 1) := fun i => by unfold rvA; rw [show (i * 2 + 1) / 2 = i by omega, show (i * 2 + 1) % 2 = 1 by omega]
  exact ⟨fun i hi => by rw [e0, e1]; exact h.le _ (by omega), fun i j hij hj => by rw [e0, e1]; exact h.gap _ _ (by omega) (by omega), fun i hi => by rw [e0]; exact h.lo _ (by omega), fun i hi => by rw [e1]; exact h.hi _ (by omega)⟩
def fiR (B : Nat → Int) (p : Int) (m : Nat) : Nat := ((List.range m).find? fun i => decide (B (i * 2) ≤ p)).getD m
def acks (B : Nat → Int) (m : Nat) (p : Int) : Bool := (List.range m).any fun i => decide (B (i * 2) ≤ p ∧ p ≤ B (i * 2 + 1))
theorem fiR_eq {B : Nat → Int} {p : Int} {m k : Nat} (hr : RgD B m) (hk : k ≤ m) (h1 : ∀ j, j < k → p < B (j * 2)) (h2 : k < m → B (k * 2) ≤ p) : fiR B p m = k := by
  unfold fiR
  rcases Nat.lt_or_ge k m with h | h
  · have : (List.range m).find? (fun i => decide (B (i * 2) ≤ p)) = some k := by
      rw [List.find?_eq_some_iff_getElem]
      refine ⟨by simpa using h2 h, k, by simpa using h, by simp, fun j hj => ?_⟩
      have := h1 j hj
      simp; omega
    rw [this]; rfl
  · have e : k = m := by omega
    have : (List.range m).find? (fun i => decide (B (i * 2) ≤ p)) = none := by
      rw [List.find?_eq_none]
      intro x hx
      have := h1 x (by rw [e]; exact List.mem_range.1 hx)
      simp; omega
    rw [this, e]; rfl
theorem acks_at {B : Nat → Int} {p : Int} {m k : Nat} (hr : RgD B m) (hk : k < m) (h1 : ∀ j, j < k → p < B (j * 2)) (h2 : B (k * 2) ≤ p) : acks B m p = decide (p ≤ B (k * 2 + 1)) := by
  unfold acks
  rw [Bool.eq_iff_iff, List.any_eq_true]
  constructor
  · rintro ⟨i, hi, hp⟩
    have hi := List.mem_range.1 hi
    simp only [decide_eq_true_eq] at hp ⊢
    rcases Nat.lt_trichotomy i k with h | h | h
    · have := h1 i h; omega
    · subst h; exact hp.2
    · have := hr.gap k i h hi; have := hr.le k hk; omega
  · intro h
    exact ⟨k, List.mem_range.2 hk, by simp only [decide_eq_true_eq] at h ⊢; exact ⟨h2, h⟩⟩
theorem acks_no {B : Nat → Int} {p : Int} {m : Nat} (h : ∀ i, i < m → ¬ (B (i * 2) ≤ p ∧ p ≤ B (i * 2 + 1))) : acks B m p = false := by
  unfold acks
  rw [List.any_eq_false]
  intro i hi
  have := h i (List.mem_range.1 hi)
  simpa using this
def grt (lo p : Int) : Int := if lo ≤ p then p else lo
theorem addN_pos {A : Nat → Int} {n : Nat} {p : Int} (h : Rg A n) : 1 ≤ addN A n p := by
  unfold addN
  have hle := kR_le A p n
  split
  · omega
  · rename_i k hk
    split
    · omega
    · split
      · omega
      · split
        · split <;> omega
        · omega
end Go.Proofs.Ytgianhjmjiiadaa
