/- The scripts that the laws play, in plain numbers. -/
import Derived.Test.YtlclcnkmdbmceaaCcN
set_option linter.unusedVariables false
set_option linter.unusedSimpArgs false
set_option maxHeartbeats 4000000
namespace Go.Proofs.Ytlclcnkmdbmceaa
open Go Go.Sy

variable {W : Int → Int} {sz : Int}
theorem cAt_succ (A : Nat → Int) (i : Nat) : cAt W sz A (i + 1) = cStep W sz (cAt W sz A i) (A (6 * i)) (A (6 * i + 1)) (A (6 * i + 2)) (A (6 * i + 3)) (A (6 * i + 4)) := rfl
theorem cAt_congr {A B : Nat → Int} : ∀ {i : Nat}, (∀ j, j < i * 6 → B j = A j) → cAt W sz B i = cAt W sz A i
  | 0, _ => rfl
  | i + 1, h => by
    rw [cAt_succ, cAt_succ, cAt_congr (i := i) (fun j hj => h j (by omega)), h (6 * i) (by omega), h (6 * i + 1) (by omega), h (6 * i + 2) (by omega), h (6 * i + 3) (by omega), h (6 * i + 4) (by omega)]
theorem scr_congr {A B : Nat → Int} {n : Nat} (h : ∀ j, j < n * 6 → B j = A j) (hs : scrOk W sz A n) : scrOk W sz B n := by
  intro i hi
  rw [cAt_congr (i := i) (fun j hj => h j (by omega)), h (6 * i) (by omega), h (6 * i + 1) (by omega), h (6 * i + 2) (by omega), h (6 * i + 3) (by omega), h (6 * i + 4) (by omega), h (6 * i + 5) (by omega)]
  exact hs i hi
theorem scr_succ {A : Nat → Int} {n : Nat} (hs : scrOk W sz A n) (h : okStep (cAt W sz A n) (A (6 * n)) (A (6 * n + 1)) (A (6 * n + 2)) (A (6 * n + 3)) (A (6 * n + 4)) (A (6 * n + 5))) : scrOk W sz A (n + 1) := by
  intro i hi
  by_cases e : i = n
  · subst e; exact h
  · exact hs i (by omega)
theorem outA_at {A : Nat → Int} {i c : Nat} (hc : c < 6) : outA W sz A (i * 6 + c) = cOut sz (cAt W sz A (i + 1)) (A (6 * i + 3)) (A (6 * i + 4)) c := by
  have e1 : (i * 6 + c) / 6 = i := by omega
  have e2 : (i * 6 + c) % 6 = c := by omega
  unfold outA
  rw [e1, e2]
theorem sentA_at {many : Int} {i c : Nat} (hc : c < 6) : sentA many sz (6 * i + c) = sentRow many sz i c := by
  have e1 : (6 * i + c) / 6 = i := by omega
  have e2 : (6 * i + c) % 6 = c := by omega
  unfold sentA
  rw [e1, e2]
theorem mul_bd {a b : Int} (ha : 0 ≤ a ∧ a ≤ 80) (hb : 1200 ≤ b ∧ b ≤ 1455) : 0 ≤ a * b ∧ a * b ≤ 116400 := by
  have h1 := Int.mul_nonneg ha.1 (show 0 ≤ b by omega)
  have h2 : a * b ≤ 80 * 1455 := Int.mul_le_mul ha.2 hb.2 (by omega) (by decide)
  omega
/-- Behind the packets that were sent, and those that are acknowledged. -/
structure Sent (many sz : Int) (i : Nat) (s : CS) : Prop where
  lc : s.lc = -1
  sst : s.sst = 4611686018427387903
  lo : 32 * sz ≤ s.cw
  hi : s.cw ≤ 32 * sz + i * 1455
  eq : (i : Int) ≤ many → s.cw = 32 * sz
  up : many = 32 → many < i → 33 * sz ≤ s.cw
theorem sent {many acked : Int} {A : Nat → Int} {n : Nat} (hm : 1 ≤ many ∧ many ≤ 40) (hz : 1200 ≤ sz ∧ sz ≤ 1455) (ha : 0 ≤ acked ∧ acked ≤ many) (hn : (n : Int) = many + acked) (hA : ∀ j, j < n * 6 → A j = sentA many sz j) :
    ∀ i, i ≤ n → scrOk W sz A i ∧ Sent many sz i (cAt W sz A i) := by
  intro i
  induction i with
  | zero =>
    intro _
    refine ⟨fun i hi => by omega, rfl, rfl, Int.le_refl _, ?_, fun _ => rfl, fun h1 h2 => by omega⟩
    show 32 * sz ≤ 32 * sz + (0 : Nat) * 1455
    omega
  | succ i ih =>
    intro hi
    obtain ⟨h1, s1, s2, s3, s4, s5, s6⟩ := ih (by omega)
    have r0 : A (6 * i) = sentRow many sz i 0 := by rw [hA _ (by omega)]; exact sentA_at (c := 0) (by decide)
    have r1 : A (6 * i + 1) = sentRow many sz i 1 := by rw [hA _ (by omega)]; exact sentA_at (by decide)
    have r2 : A (6 * i + 2) = sentRow many sz i 2 := by rw [hA _ (by omega)]; exact sentA_at (by decide)
    have r3 : A (6 * i + 3) = sentRow many sz i 3 := by rw [hA _ (by omega)]; exact sentA_at (by decide)
    have r4 : A (6 * i + 4) = sentRow many sz i 4 := by rw [hA _ (by omega)]; exact sentA_at (by decide)
    have r5 : A (6 * i + 5) = sentRow many sz i 5 := by rw [hA _ (by omega)]; exact sentA_at (by decide)
    by_cases hr : (i : Int) < many
    · have b3 := mul_bd (a := (i : Int)) (b := sz) (by omega) hz
      refine ⟨scr_succ h1 ?_, ?_⟩
      · rw [r0, r1, r2, r3, r4, r5]
        simp only [sentRow, if_pos hr]
        exact ⟨by omega, .inl ⟨rfl, by decide⟩⟩
      · rw [cAt_succ, r0]
        simp only [sentRow, if_pos hr]
        exact ⟨s1, s2, s3, by show (cAt W sz A i).cw ≤ _; omega, fun _ => s5 (by omega), fun h1 h2 => by omega⟩
    · have b3 := mul_bd (a := 2 * many - i) (b := sz) (by omega) hz
      refine ⟨scr_succ h1 ?_, ?_⟩
      · rw [r0, r1, r2, r3, r4, r5]
        simp only [sentRow, if_neg hr]
        exact ⟨by omega, .inr (.inl ⟨rfl, by omega, s1, s2⟩)⟩
      · rw [cAt_succ, r0, r3]
        simp only [sentRow, if_neg hr]
        have hc : (cAt W sz A i).cw ≤ ackCw (cAt W sz A i).cw ((2 * many - i) * sz) sz ∧ ackCw (cAt W sz A i).cw ((2 * many - i) * sz) sz ≤ (cAt W sz A i).cw + sz := by unfold ackCw; split <;> omega
        refine ⟨s1, s2, ?_, ?_, fun h => by omega, fun h1 h2 => ?_⟩
        · show 32 * sz ≤ ackCw (cAt W sz A i).cw ((2 * many - i) * sz) sz; omega
        · show ackCw (cAt W sz A i).cw ((2 * many - i) * sz) sz ≤ _; omega
        · show 33 * sz ≤ ackCw (cAt W sz A i).cw ((2 * many - i) * sz) sz
          by_cases he : (i : Int) = many
          · have hcw := s5 (by omega)
            rw [hcw, he, h1]
            unfold ackCw
            rw [if_pos (.inl (by omega))]; omega
          · have := s6 h1 (by omega); omega
/-- Behind the probes. -/
theorem probes {many acked : Int} {A B : Nat → Int} {n : Nat} (hm : 1 ≤ many ∧ many ≤ 40) (hz : 1200 ≤ sz ∧ sz ≤ 1455) (ha : 0 ≤ acked ∧ acked ≤ many) (hn : (n : Int) = many + acked) (hA : ∀ j, j < n * 6 → A j = sentA many sz j) (hB : ∀ j, j < n * 6 → B j = A j)
    (b0 : B (6 * n) = 6) (b1 : B (6 * n + 1) = 0) (b2 : B (6 * n + 2) = 0) (b3 : B (6 * n + 3) = 0) (b4 : B (6 * n + 4) = 0) (b5 : B (6 * n + 5) = 1) :
    scrOk W sz B (n + 1) ∧ outA W sz B (n * 6) = 2 * sz ∧ outA W sz B (n * 6 + 1) = 1 := by
  obtain ⟨h1, s⟩ := sent hm hz ha hn hA n (Nat.le_refl _)
  have e := cAt_congr (W := W) (sz := sz) hB
  have en : cAt W sz B (n + 1) = { cAt W sz A n with lc := -1, sst := (cAt W sz A n).cw / 2, cw := sz * 2 } := by
    rw [cAt_succ, e, b0]; rfl
  refine ⟨scr_succ (scr_congr hB h1) ?_, ?_, ?_⟩
  · rw [b0, b1, b2, b3, b4, b5]
    exact ⟨by omega, .inr (.inr (.inl ⟨rfl, by decide⟩))⟩
  · rw [show n * 6 = n * 6 + 0 from rfl, outA_at (by decide), en]
    show sz * 2 = 2 * sz; omega
  · rw [outA_at (by decide), en]
    show b2i (decide (sz * 2 < (cAt W sz A n).cw / 2)) = 1
    have := s.lo
    rw [decide_eq_true (by omega)]; rfl
/-- A controller grows. -/
theorem awake {A : Nat → Int} (hA : ∀ j, j < 40 * 6 → A j = sentA 32 1280 j) : scrOk W 1280 A 40 ∧ outA W 1280 A 1 = 1 ∧ outA W 1280 A 186 < outA W 1280 A 234 := by
  have h := sent (W := W) (sz := 1280) (many := 32) (acked := 8) (n := 40) (by omega) (by omega) (by omega) (by omega) hA
  refine ⟨(h 40 (by omega)).1, ?_, ?_⟩
  · rw [show 1 = 0 * 6 + 1 from rfl, outA_at (by decide)]
    have s := (h 1 (by omega)).2
    have h1 := s.sst
    have h2 := s.hi
    show b2i (decide ((cAt W 1280 A 1).cw < (cAt W 1280 A 1).sst)) = 1
    rw [decide_eq_true (by omega)]; rfl
  · rw [show 186 = 31 * 6 + 0 from rfl, show 234 = 39 * 6 + 0 from rfl, outA_at (by decide), outA_at (by decide)]
    have s := (h 32 (by omega)).2.eq (by omega)
    have t := (h 40 (by omega)).2.up rfl (by omega)
    show (cAt W 1280 A 32).cw < (cAt W 1280 A 40).cw
    omega
end Go.Proofs.Ytlclcnkmdbmceaa
