/- Packets that are lost one after the other, in plain numbers. -/
import Derived.Test.YtlclcnkmdbmceaaCcJ
set_option linter.unusedVariables false
set_option linter.unusedSimpArgs false
set_option maxHeartbeats 4000000
namespace Go.Proofs.Ytlclcnkmdbmceaa
open Go Go.Sy

variable {W : Int → Int} {sz : Int}
/-- How many of t numbers from lo on are there. -/
def cnt (p : Nat → Int) (lo : Nat) : Nat → Nat
  | 0 => 0
  | t + 1 => cnt p lo t + if p (lo + t) = 0 then 0 else 1
theorem cnt_le (p : Nat → Int) (lo : Nat) : ∀ t, cnt p lo t ≤ t
  | 0 => Nat.le_refl _
  | t + 1 => by have := cnt_le p lo t; simp only [cnt]; split <;> omega
theorem cnt_lt {p : Nat → Int} {lo z : Nat} (h0 : p z = 0) : ∀ {t}, lo ≤ z → z < lo + t → cnt p lo t < t
  | 0, h1, h2 => by omega
  | t + 1, h1, h2 => by
    simp only [cnt]
    by_cases h : z = lo + t
    · have := cnt_le p lo t
      rw [← h, if_pos h0]; omega
    · have := cnt_lt (t := t) h0 h1 (by omega)
      split <;> omega
theorem cnt_up {p q : Nat → Int} {lo z : Nat} (h0 : p z = 0) (hq : ∀ y, q y = if y = z then 1 else p y) : ∀ {t}, lo ≤ z → cnt q lo t = cnt p lo t + if z < lo + t then 1 else 0
  | 0, h1 => by simp only [cnt]; rw [if_neg (by omega)]
  | t + 1, h1 => by
    simp only [cnt, cnt_up (t := t) h0 hq h1, hq]
    by_cases h : lo + t = z
    · subst h
      have e1 : ¬ (lo + t < lo + t) := Nat.lt_irrefl _
      have e2 : lo + t < lo + (t + 1) := by omega
      simp [h0, e1, e2]
    · by_cases h2 : z < lo + t
      · have e2 : z < lo + (t + 1) := by omega
        simp only [h, h2, e2, if_true, if_false]; omega
      · have e2 : ¬ (z < lo + (t + 1)) := by omega
        simp only [h, h2, e2, if_true, if_false]; omega
structure Loss (N K : Nat) (sz : Int) (A : Nat → Int) (m : Nat) (fl : Int) (pres val : Nat → Int) : Prop where
  n : 1 ≤ N ∧ N ≤ 40
  k : K < N
  z : 1200 ≤ sz ∧ sz ≤ 1455
  ge : N + K ≤ m
  sent : ∀ j, j < (N + K) * 6 → A j = sentA N sz j
  rows : ∀ r, N + K ≤ r → r < m → A (6 * r) = 2 ∧ ((K : Int) + 1 ≤ A (6 * r + 1) ∧ A (6 * r + 1) ≤ N) ∧ A (6 * r + 2) = sz ∧ (0 ≤ A (6 * r + 3) ∧ A (6 * r + 3) ≤ 116400) ∧ A (6 * r + 4) = 0 ∧ A (6 * r + 5) = 0
  le : m + K ≤ N + K + N
  fl : fl = ((N : Int) + N - m) * sz
  cnt : cnt pres (K + 1) (N - K) = m - (N + K)
  pv : ∀ z, pres z = 0 ↔ val z = 0
theorem Loss.flb {N K m : Nat} {A pres val : Nat → Int} {fl : Int} (L : Loss N K sz A m fl pres val) : 0 ≤ fl ∧ fl ≤ 116400 := by
  have := L.n; have := L.k; have := L.ge; have := L.le
  rw [L.fl]
  exact mul_bd (by omega) L.z
theorem Loss.begin {N K : Nat} {A : Nat → Int} {pres val : Nat → Int} (hn : 1 ≤ N ∧ N ≤ 40) (hk : K < N) (hz : 1200 ≤ sz ∧ sz ≤ 1455) (hA : ∀ j, j < (N + K) * 6 → A j = sentA N sz j) (hp : ∀ z, pres z = 0) (hv : ∀ z, val z = 0) :
    Loss N K sz A (N + K) (((N : Int) - K) * sz) pres val := by
  refine ⟨hn, hk, hz, Nat.le_refl _, hA, fun r h1 h2 => by omega, by omega, ?_, ?_, fun z => by simp [hp, hv]⟩
  · congr 1; omega
  · have : ∀ t, Proofs.Ytlclcnkmdbmceaa.cnt pres (K + 1) t = 0 := fun t => by
      induction t with
      | zero => rfl
      | succ t ih => simp only [Proofs.Ytlclcnkmdbmceaa.cnt, ih, hp, if_true]
    rw [this]; omega
theorem Loss.next {N K m z : Nat} {A B pres val p2 v2 : Nat → Int} {fl : Int} (L : Loss N K sz A m fl pres val) (hz : K + 1 ≤ z ∧ z ≤ N) (h0 : pres z = 0) (hp : ∀ y, p2 y = if y = z then 1 else pres y) (hv : ∀ y, v2 y = if y = z then 1 else val y) (hB : ∀ j, j < m * 6 → B j = A j)
    (b0 : B (6 * m) = 2) (b1 : B (6 * m + 1) = z) (b2 : B (6 * m + 2) = sz) (b3 : B (6 * m + 3) = fl) (b4 : B (6 * m + 4) = 0) (b5 : B (6 * m + 5) = 0) : Loss N K sz B (m + 1) (fl - sz) p2 v2 := by
  have h1 := L.n; have h2 := L.k; have h3 := L.ge; have h4 := L.le; have h5 := L.flb
  have hlt : Proofs.Ytlclcnkmdbmceaa.cnt pres (K + 1) (N - K) < N - K := cnt_lt h0 (by omega) (by omega)
  rw [L.cnt] at hlt
  refine ⟨h1, h2, L.z, by omega, fun j hj => by rw [hB j (by omega)]; exact L.sent j hj, fun r r1 r2 => ?_, by omega, ?_, ?_, fun y => ?_⟩
  · by_cases hr : r = m
    · subst hr; exact ⟨b0, by omega, b2, by omega, b4, b5⟩
    · rw [hB _ (by omega), hB _ (by omega), hB _ (by omega), hB _ (by omega), hB _ (by omega), hB _ (by omega)]
      exact L.rows r r1 (by omega)
  · rw [L.fl, show (N : Int) + N - ((m + 1 : Nat) : Int) = (N + N - m) - 1 by omega, Int.sub_mul ((N : Int) + N - m) 1 sz, Int.one_mul]
  · rw [cnt_up h0 hp (by omega), L.cnt, if_pos (by omega)]; omega
  · rw [hp, hv]
    by_cases hy : y = z
    · simp [hy]
    · simp [hy, L.pv]
theorem sentLs {many acked : Int} {A : Nat → Int} {n : Nat} (hm : 1 ≤ many ∧ many ≤ 40) (ha : 0 ≤ acked ∧ acked ≤ many) (hn : (n : Int) = many + acked) (hA : ∀ j, j < n * 6 → A j = sentA many sz j) :
    ∀ i, i ≤ n → (cAt W sz A i).ls = if i = 0 then (-1 : Int) else if (i : Int) ≤ many then (i : Int) else many := by
  intro i
  induction i with
  | zero => intro _; rfl
  | succ i ih =>
    intro hi
    have h := ih (by omega)
    have r0 : A (6 * i) = sentRow many sz i 0 := by rw [hA _ (by omega)]; exact sentA_at (c := 0) (by decide)
    have r1 : A (6 * i + 1) = sentRow many sz i 1 := by rw [hA _ (by omega)]; exact sentA_at (by decide)
    by_cases hr : (i : Int) < many
    · rw [cAt_succ, r0, r1]
      simp only [sentRow, if_pos hr]
      rw [if_neg (by omega), if_pos (by omega)]
      show (i : Int) + 1 = ((i + 1 : Nat) : Int); omega
    · rw [cAt_succ, r0]
      simp only [sentRow, if_neg hr]
      show (cAt W sz A i).ls = _
      rw [h, if_neg (show ¬ i = 0 by omega), if_neg (show ¬ i + 1 = 0 by omega), if_neg (show ¬ ((i + 1 : Nat) : Int) ≤ many by omega)]
      split <;> omega
theorem cut {s : CS} {n b f t : Int} (h : s.lc < n) : cStep W sz s 2 n b f t = { s with cw := W s.cw, sst := W s.cw, lc := s.ls } := by
  unfold cStep
  rw [if_neg (by decide), if_neg (by decide), if_neg (by decide), if_pos rfl, if_neg (by omega)]
theorem nocut {s : CS} {n b f t : Int} (h : n ≤ s.lc) : cStep W sz s 2 n b f t = s := by
  unfold cStep
  rw [if_neg (by decide), if_neg (by decide), if_neg (by decide), if_pos rfl, if_pos h]
/-- The first loss cuts the window, the others that were sent ahead of it do not, one behind it does. -/
theorem once {N K m : Nat} {A B pres val : Nat → Int} {fl : Int} (L : Loss N K sz A m fl pres val) (hm : N + K < m) (hB : ∀ j, j < m * 6 → B j = A j)
    (b0 : B (6 * m) = 0) (b1 : B (6 * m + 1) = N + 1) (b2 : B (6 * m + 2) = sz) (b3 : B (6 * m + 3) = fl) (b4 : B (6 * m + 4) = 900000000) (b5 : B (6 * m + 5) = 1)
    (c0 : B (6 * m + 6) = 2) (c1 : B (6 * m + 7) = N + 1) (c2 : B (6 * m + 8) = sz) (c3 : B (6 * m + 9) = fl + sz) (c4 : B (6 * m + 10) = 0) (c5 : B (6 * m + 11) = 0) :
    scrOk W sz B (m + 2) ∧ ∃ w0, (2400 ≤ w0 ∧ w0 ≤ 200000) ∧ outA W sz B ((N + K - 1) * 6) = w0 ∧ (∀ r, N + K ≤ r → r < m + 1 → outA W sz B (r * 6) = W w0) ∧ outA W sz B ((m + 1) * 6) = W (W w0) := by
  have h1 := L.n; have h2 := L.k; have h3 := L.ge; have h4 := L.le; have h5 := L.flb; have h6 := L.z
  have hS := sent (W := W) (sz := sz) (many := N) (acked := K) (n := N + K) (A := B) (by omega) h6 (by omega) (by omega) (fun j hj => by rw [hB j (by omega)]; exact L.sent j hj) (N + K) (Nat.le_refl _)
  have hL := sentLs (W := W) (sz := sz) (many := N) (acked := K) (n := N + K) (A := B) (by omega) (by omega) (by omega) (fun j hj => by rw [hB j (by omega)]; exact L.sent j hj) (N + K) (Nat.le_refl _)
  obtain ⟨s0, s1⟩ := hS
  have hls : (cAt W sz B (N + K)).ls = N := by rw [hL, if_neg (by omega)]; split <;> omega
  have hrow : ∀ r, N + K ≤ r → r < m → B (6 * r) = 2 ∧ ((K : Int) + 1 ≤ B (6 * r + 1) ∧ B (6 * r + 1) ≤ N) ∧ B (6 * r + 2) = sz ∧ (0 ≤ B (6 * r + 3) ∧ B (6 * r + 3) ≤ 116400) ∧ B (6 * r + 4) = 0 ∧ B (6 * r + 5) = 0 := fun r r1 r2 => by
    rw [hB _ (by omega), hB _ (by omega), hB _ (by omega), hB _ (by omega), hB _ (by omega), hB _ (by omega)]
    exact L.rows r r1 r2
  have run : ∀ d, N + K + 1 + d ≤ m → scrOk W sz B (N + K + 1 + d) ∧ (cAt W sz B (N + K + 1 + d)).cw = W (cAt W sz B (N + K)).cw ∧ (cAt W sz B (N + K + 1 + d)).lc = N ∧ (cAt W sz B (N + K + 1 + d)).ls = N := by
    intro d
    induction d with
    | zero =>
      intro hd
      obtain ⟨r0, r1, r2, r3, r4, r5⟩ := hrow (N + K) (Nat.le_refl _) hm
      have e : cAt W sz B (N + K + 1) = { cAt W sz B (N + K) with cw := W (cAt W sz B (N + K)).cw, sst := W (cAt W sz B (N + K)).cw, lc := (cAt W sz B (N + K)).ls } := by
        rw [cAt_succ, r0]
        exact cut (by rw [s1.lc]; omega)
      refine ⟨scr_succ (n := N + K) s0 ⟨by omega, .inr (.inr (.inr r0))⟩, ?_, ?_, ?_⟩
      · show (cAt W sz B (N + K + 1)).cw = _; rw [e]
      · show (cAt W sz B (N + K + 1)).lc = _; rw [e]; exact hls
      · show (cAt W sz B (N + K + 1)).ls = _; rw [e]; exact hls
    | succ d ih =>
      intro hd
      obtain ⟨i0, i1, i2, i3⟩ := ih (by omega)
      obtain ⟨r0, r1, r2, r3, r4, r5⟩ := hrow (N + K + 1 + d) (by omega) (by omega)
      have e : cAt W sz B (N + K + 1 + d + 1) = cAt W sz B (N + K + 1 + d) := by
        have hn : B (6 * (N + K + 1 + d) + 1) ≤ (cAt W sz B (N + K + 1 + d)).lc := by rw [i2]; exact r1.2
        rw [cAt_succ B (N + K + 1 + d), r0]
        exact nocut hn
      refine ⟨scr_succ (n := N + K + 1 + d) i0 ⟨by omega, .inr (.inr (.inr r0))⟩, ?_, ?_, ?_⟩
      · show (cAt W sz B (N + K + 1 + d + 1)).cw = _; rw [e]; exact i1
      · show (cAt W sz B (N + K + 1 + d + 1)).lc = _; rw [e]; exact i2
      · show (cAt W sz B (N + K + 1 + d + 1)).ls = _; rw [e]; exact i3
  have at_ : ∀ r, N + K < r → r ≤ m → scrOk W sz B r ∧ (cAt W sz B r).cw = W (cAt W sz B (N + K)).cw ∧ (cAt W sz B r).lc = N ∧ (cAt W sz B r).ls = N := fun r r1 r2 => by
    have := run (r - (N + K + 1)) (by omega)
    rw [show N + K + 1 + (r - (N + K + 1)) = r by omega] at this
    exact this
  obtain ⟨m0, m1, m2, m3⟩ := at_ m hm (Nat.le_refl _)
  have e1 : cAt W sz B (m + 1) = { cAt W sz B m with ls := N + 1, bud := pSent 900000000 sz (pRate (cAt W sz B m).cw (cAt W sz B m).sst) (cAt W sz B m).bud (cAt W sz B m).last, last := 900000000 } := by
    rw [cAt_succ, b0, b1, b2, b4]; rfl
  have e2 : cAt W sz B (m + 1 + 1) = { cAt W sz B (m + 1) with cw := W (cAt W sz B (m + 1)).cw, sst := W (cAt W sz B (m + 1)).cw, lc := (cAt W sz B (m + 1)).ls } := by
    rw [cAt_succ, show 6 * (m + 1) = 6 * m + 6 by omega, c0, c1]
    exact cut (by rw [e1]; show (cAt W sz B m).lc < N + 1; rw [m2]; omega)
  have hcw : 2400 ≤ (cAt W sz B (N + K)).cw ∧ (cAt W sz B (N + K)).cw ≤ 200000 := by
    have a1 := s1.lo; have a2 := s1.hi; omega
  refine ⟨?_, (cAt W sz B (N + K)).cw, hcw, ?_, fun r r1 r2 => ?_, ?_⟩
  · have k1 : scrOk W sz B (m + 1) := scr_succ m0 (by
      rw [b0, b1, b2, b3, b4, b5]; exact ⟨by omega, .inl ⟨rfl, by decide⟩⟩)
    refine scr_succ k1 ?_
    rw [show 6 * (m + 1) = 6 * m + 6 by omega, c0, show 6 * m + 6 + 1 = 6 * m + 7 from rfl, c1, show 6 * m + 6 + 2 = 6 * m + 8 from rfl, c2, show 6 * m + 6 + 3 = 6 * m + 9 from rfl, c3, show 6 * m + 6 + 4 = 6 * m + 10 from rfl, c4, show 6 * m + 6 + 5 = 6 * m + 11 from rfl, c5]
    exact ⟨by omega, .inr (.inr (.inr rfl))⟩
  · rw [show (N + K - 1) * 6 = (N + K - 1) * 6 + 0 from rfl, outA_at (by decide), show N + K - 1 + 1 = N + K by omega]; rfl
  · rw [show r * 6 = r * 6 + 0 from rfl, outA_at (by decide)]
    show (cAt W sz B (r + 1)).cw = _
    by_cases hr : r = m
    · subst hr; rw [e1]; exact m1
    · exact (at_ (r + 1) (by omega) (by omega)).2.1
  · rw [show (m + 1) * 6 = (m + 1) * 6 + 0 from rfl, outA_at (by decide)]
    show (cAt W sz B (m + 1 + 1)).cw = _
    rw [e2]
    show W (cAt W sz B (m + 1)).cw = _
    rw [e1]
    show W (cAt W sz B m).cw = _
    rw [m1]
end Go.Proofs.Ytlclcnkmdbmceaa
