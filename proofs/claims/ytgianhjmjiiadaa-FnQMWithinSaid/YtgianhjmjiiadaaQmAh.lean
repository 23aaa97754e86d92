/- A packet of application data that is new is told in time: in plain numbers. -/
import Derived.Test.YtgianhjmjiiadaaQmAf
set_option autoImplicit true
set_option relaxedAutoImplicit true
set_option linter.unusedVariables false
set_option linter.unusedSimpArgs false
namespace Go.Proofs.Ytgianhjmjiiadaa
open Go Go.Sy
section
variable {S S' : Nat → Int} {n : Nat}
theorem top_le (h : STok S n 2) : ∀ i, i ≤ n → topA S i ≤ 99
  | 0, _ => by show (-1 : Int) ≤ 99; omega
  | i + 1, hi => by
    have := top_le h i (by omega)
    have := (h.pn i (by omega)).2
    simp only [topA]
    split <;> omega
structure Wi (S S' : Nat → Int) (n : Nat) (pn : Int) : Prop where
  ag : ∀ t, t < n * 6 → S' t = S t
  k0 : kdA S' n = 0
  e0 : ecA S' n = 0
  p0 : pnA S' n = pn
  t0 : tmA S' n = 2000000000
  l0 : elA S' n = true
  k1 : kdA S' (n + 1) = 1
  e1 : ecA S' (n + 1) = 0
  p1 : pnA S' (n + 1) = 0
  t1 : tmA S' (n + 1) = 2025000000
  o1 : onA S' (n + 1) = true
  k2 : kdA S' (n + 2) = 3
  e2 : ecA S' (n + 2) = 0
  p2 : pnA S' (n + 2) = pn
  t2 : tmA S' (n + 2) = 2025000000
theorem Wi.ok {pn : Int} (w : Wi S S' n pn) (h : STok S n 2) (hn : n ≤ 60) (h0 : 100 ≤ pn) (h1 : pn ≤ 355) : SOk S' (n + 3) := by
  have a0 : ∀ i, i < n → kdA S' i = kdA S i := fun i hi => w.ag _ (by omega)
  have a1 : ∀ i, i < n → ecA S' i = ecA S i := fun i hi => w.ag _ (by omega)
  have a2 : ∀ i, i < n → pnA S' i = pnA S i := fun i hi => w.ag _ (by omega)
  have a3 : ∀ i, i < n → tmA S' i = tmA S i := fun i hi => w.ag _ (by omega)
  have c : ∀ i, i < n + 3 → i < n ∨ i = n ∨ i = n + 1 ∨ i = n + 2 := fun i hi => by omega
  refine ⟨fun i hi => ?_, fun i hi => ?_, fun i hi => ?_, ⟨n, fun i _ hi => by rw [a2 i hi]; exact (h.pn i hi).2, fun i hi hj => ?_⟩, fun i hi => ?_, fun i hi hk => ?_⟩
  · rcases c i hi with c | rfl | rfl | rfl
    · rw [a0 i c]; exact h.kd i c
    · rw [w.k0]; omega
    · rw [w.k1]; omega
    · rw [w.k2]; omega
  · rcases c i hi with c | rfl | rfl | rfl
    · rw [a1 i c]; exact h.ec i c
    · rw [w.e0]; omega
    · rw [w.e1]; omega
    · rw [w.e2]; omega
  · rcases c i hi with c | rfl | rfl | rfl
    · rw [a2 i c]; have := h.pn i c; omega
    · rw [w.p0]; omega
    · rw [w.p1]; omega
    · rw [w.p2]; omega
  · rcases c i hi with c | rfl | rfl | rfl
    · omega
    · omega
    · rw [w.k1]; decide
    · rw [w.k2]; decide
  · rcases c i hi with c | rfl | rfl | rfl
    · rw [a3 i c]; have := h.tm i c; omega
    · rw [w.t0]; omega
    · rw [w.t1]; omega
    · rw [w.t2]; omega
  · rcases c i hi with c | rfl | rfl | rfl
    · rw [a2 i c, top_ag w.ag i (by omega)]
      rw [a0 i c] at hk
      exact (h.ig i c hk).1
    · rw [w.k0] at hk; cases hk
    · rw [w.k1] at hk; cases hk
    · rw [w.k2] at hk; cases hk
theorem mem_top {A : Nat → Int} {n : Nat} {p : Int} (h : Rg A n) (hm : Mem A n p) (ht : ∀ x, Mem A n x → x ≤ p) : rvA A n 1 = p := by
  obtain ⟨i, hi, a, b⟩ := hm
  have hn : 0 < n := by omega
  have l := h.le (n - 1) (by omega)
  have h1 := ht (A ((n - 1) * 2 + 1)) ⟨n - 1, by omega, l, Int.le_refl _⟩
  have e : rvA A n 1 = A ((n - 1) * 2 + 1) := by
    show A ((n - 1 - 1 / 2) * 2 + 1 % 2) = _
    rfl
  rw [e]
  rcases Nat.lt_or_ge i (n - 1) with c | c
  · have := h.gap i (n - 1) c (by omega)
    have := h.le i hi
    omega
  · have : i = n - 1 := by omega
    subst this; omega
theorem Wi.says {pn : Int} (w : Wi S S' n pn) (h : STok S n 2) (hn : n ≤ 60) (h0 : 100 ≤ pn) (h1 : pn ≤ 355) :
    colA S' ((n + 1) * 8) = 1 ∧ colA S' ((n + 1) * 8 + 3) = 25000000 ∧ 1 ≤ colL S' (n + 1) ∧ colL S' (n + 1) ≤ 51 ∧ colC S' ((n + 1) * 128 + 1) = pn ∧ colA S' ((n + 2) * 8) = 1 := by
  have hS := w.ok h hn h0 h1
  have I0 := inv_at hS (by omega) n (by omega)
  have ht0 : topA S' n ≤ 99 := by rw [top_ag w.ag n (Nat.le_refl _)]; exact top_le h n (Nat.le_refl _)
  -- the packet is new
  have ho : isOld (sAt S' n) (pnA S' n) = false := by
    unfold isOld
    rw [w.p0, Bool.or_eq_false_iff]
    have := I0.db; have := I0.ig
    refine ⟨decide_eq_false (by omega), ?_⟩
    cases hm : memD (sAt S' n).A (sAt S' n).n pn with
    | false => rfl
    | true => have := I0.mem _ (memD_iff.1 hm); omega
  have e1 := st_new w.k0 ho
  have I1 := inv_at hS (by omega) (n + 1) (by omega)
  have t1 : topA S' (n + 1) = pn := by
    simp only [topA]
    rw [if_pos w.k0, w.p0]; omega
  rw [t1] at I1
  have hlo := (I1.t (by omega)).1
  have hmem := (I1.t (by omega)).2
  have hnw : (sAt S' (n + 1)).nw = true := by
    rw [e1, w.l0]
    show ((sAt S' n).nw || true) = true
    rw [Bool.or_true]
  have hlt : (sAt S' (n + 1)).lt = 2000000000 := by
    rw [e1]
    show (if (sAt S' n).lo ≤ pnA S' n then tmA S' n else (sAt S' n).lt) = _
    have h3 : (sAt S' n).lo ≤ 99 := by
      rcases Int.lt_or_le (topA S' n) 0 with c | c
      · have := (I0.e (by have := I0.t0; omega)).2.2.2; omega
      · have := (I0.t c).1; omega
    rw [w.p0, w.t0, if_pos (by omega)]
  -- it is told
  have ha : asks (sAt S' (n + 1)) (tmA S' (n + 1)) (onA S' (n + 1)) = true := by
    unfold asks
    rw [hnw, w.o1, w.t1]
    cases hq : (sAt S' (n + 1)).qd with
    | true => rfl
    | false =>
      have hal : (sAt S' (n + 1)).al = 2025000000 := by
        rw [e1] at hq ⊢
        have hq' : sqD (sAt S' n) (pnA S' n) (ecA S' n) (elA S' n) = false := hq
        show (if elA S' n = true then (if sqD (sAt S' n) (pnA S' n) (ecA S' n) (elA S' n) = true then (if (sAt S' n).qd = true then (sAt S' n).al else 0) else tmA S' n + 25000000) else (sAt S' n).al) = _
        rw [if_pos w.l0, hq', if_neg (by decide), w.t0]
        rfl
      rw [hal]; rfl
  have hf := frA_t w.k1 ha
  have e2 := st_fr w.k1 ha
  have hcA : ∀ i c : Nat, c < 8 → colA S' (i * 8 + c) = cellA S' i c := fun i c hc => by
    unfold colA
    rw [show (i * 8 + c) / 8 = i by omega, show (i * 8 + c) % 8 = c by omega]
  have hLn : colL S' (n + 1) = ((sAt S' (n + 1)).n : Int) := by unfold colL; rw [hf, if_pos rfl]
  have hn1 := I1.nw hnw
  have hn2 := I1.n1
  refine ⟨?_, ?_, by rw [hLn]; omega, by rw [hLn]; omega, ?_, ?_⟩
  · have := hcA (n + 1) 0 (by omega)
    rw [Nat.add_zero] at this
    rw [this]
    show b2i (isC S' (n + 1)) = 1
    unfold isC
    rw [hf]; rfl
  · rw [hcA (n + 1) 3 (by omega)]
    show dlC S' (n + 1) = _
    unfold dlC
    rw [hf, if_pos rfl, w.t1, hlt]; decide
  · unfold colC
    rw [show ((n + 1) * 128 + 1) / 128 = n + 1 by omega, show ((n + 1) * 128 + 1) % 128 = 1 by omega]
    exact mem_top I1.rg hmem I1.mem
  · have := hcA (n + 2) 0 (by omega)
    rw [Nat.add_zero] at this
    rw [this]
    show b2i (isC S' (n + 2)) = 1
    have hO : isOld (sAt S' (n + 2)) (pnA S' (n + 2)) = true := by
      unfold isOld
      rw [w.p2, show sAt S' (n + 2) = fram (sAt S' (n + 1)) from e2]
      show (_ || memD (sAt S' (n + 1)).A (sAt S' (n + 1)).n pn) = true
      rw [memD_iff.2 hmem, Bool.or_true]
    unfold isC
    rw [hO, frA_f (by rw [w.k2]; decide), decide_eq_true w.k2]; rfl
end
end Go.Proofs.Ytgianhjmjiiadaa
