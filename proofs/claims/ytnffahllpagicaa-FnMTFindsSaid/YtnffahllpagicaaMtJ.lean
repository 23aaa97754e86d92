/- The scripts that the law plays, in plain numbers. -/
import Derived.Test.YtnffahllpagicaaMtM
set_option linter.unusedVariables false
set_option linter.unusedSimpArgs false
set_option maxHeartbeats 4000000
namespace Go.Proofs.Ytnffahllpagicaa
open Go Go.Sy

variable {least most : Int}
theorem stAt_congr {A B : Nat → Int} : ∀ {i : Nat}, (∀ j, j < i * 4 → B j = A j) → stAt least most B i = stAt least most A i
  | 0, _ => rfl
  | i + 1, h => by
    show mStep (stAt least most B i) (B (4 * i)) (B (4 * i + 1)) = mStep (stAt least most A i) (A (4 * i)) (A (4 * i + 1))
    rw [stAt_congr (i := i) (fun j hj => h j (by omega)), h (4 * i) (by omega), h (4 * i + 1) (by omega)]
theorem scr_congr {A B : Nat → Int} {n : Nat} (h : ∀ j, j < n * 4 → B j = A j) (hs : scrOk least most A n) : scrOk least most B n := by
  intro i hi
  rw [stAt_congr (i := i) (fun j hj => h j (by omega)), h (4 * i) (by omega), h (4 * i + 1) (by omega)]
  exact hs i hi
theorem scr_succ {A : Nat → Int} {n : Nat} (hs : scrOk least most A n) (h : okStep (stAt least most A n) (A (4 * n)) (A (4 * n + 1))) : scrOk least most A (n + 1) := by
  intro i hi
  by_cases e : i = n
  · subst e; exact h
  · exact hs i (by omega)
theorem outA_at {A : Nat → Int} {i c : Nat} (hc : c < 4) : outA least most A (i * 4 + c) = mOut (stAt least most A i) (mStep (stAt least most A i) (A (4 * i)) (A (4 * i + 1))) (A (4 * i)) (A (4 * i + 1)) c := by
  have e1 : (i * 4 + c) / 4 = i := by omega
  have e2 : (i * 4 + c) % 4 = c := by omega
  unfold outA
  rw [e1, e2]; rfl
/-- How the law's script stands at the head of its loop. -/
structure Jn (A : Nat → Int) (L : Nat) (least most path known t n : Int) : Prop where
  scr : scrOk least most A L
  fl : (stAt least most A L).fl = -1
  lp : (stAt least most A L).lp = t
  has : (stAt least most A L).has = true
  sm : 1000000 ≤ (stAt least most A L).sm ∧ (stAt least most A L).sm ≤ 256000000
  mn : (stAt least most A L).mn = known
  inv : Inv (stAt least most A L) least most path
  pot : pot (stAt least most A L) + n ≤ 36
  t0 : 1000000000 ≤ t ∧ t ≤ 1000000000 + n * 10000000000
/-- Is a probe due? -/
theorem Jn.ask {A B : Nat → Int} {L : Nat} {path known t n : Int} (J : Jn A L least most path known t n) (n0 : 0 ≤ n ∧ n ≤ 40) (hB : ∀ j, j < L * 4 → B j = A j) (hk : B (4 * L) = 1) (ht : B (4 * L + 1) = t + 10000000000) :
    scrOk least most B (L + 1) ∧ outA least most B (L * 4 + 3) = known ∧ outA least most B (L * 4 + 1) = b2i (decide ((stAt least most A L).top - known ≤ 21)) ∧ outA least most B (L * 4) = b2i (decide (¬ (stAt least most A L).top - known ≤ 21)) := by
  have e := stAt_congr (least := least) (most := most) hB
  have t0 := J.t0
  refine ⟨scr_succ (scr_congr hB J.scr) ?_, ?_, ?_, ?_⟩
  · rw [hk, ht]; exact ⟨by omega, .inr (.inl rfl)⟩
  · rw [outA_at (by decide), e, hk, ht]; exact J.mn
  · rw [outA_at (by decide), e, hk, ht]
    show b2i (decide ((stAt least most A L).top - (stAt least most A L).mn ≤ 21)) = _
    rw [J.mn]
  · rw [show L * 4 = L * 4 + 0 from rfl, outA_at (by decide), e, hk, ht]
    show b2i ((stAt least most A L).is (t + 10000000000)) = _
    unfold MS.is
    congr 1
    rw [J.lp, J.fl, J.mn]
    have := J.sm
    apply decide_eq_decide.2
    constructor
    · exact fun h => h.2.2.1
    · exact fun h => ⟨by omega, rfl, h, by omega⟩
/-- The probe. -/
theorem Jn.probe {A B : Nat → Int} {L : Nat} {path known t n : Int} (J : Jn A L least most path known t n) (n0 : 0 ≤ n ∧ n ≤ 40) (hB : ∀ j, j < L * 4 → B j = A j) (hk : B (4 * L) = 2) (ht : B (4 * L + 1) = t + 10000000000) :
    scrOk least most B (L + 1) ∧ outA least most B (L * 4 + 2) = (stAt least most A L).next := by
  have e := stAt_congr (least := least) (most := most) hB
  have t0 := J.t0
  refine ⟨scr_succ (scr_congr hB J.scr) ?_, ?_⟩
  · rw [hk, ht]; exact ⟨by omega, .inr (.inr (.inl rfl))⟩
  · rw [outA_at (by decide), e, hk, ht]; rfl
/-- What becomes of it. -/
theorem Jn.step {A B : Nat → Int} {L : Nat} {path known t n k : Int} (J : Jn A L least most path known t n) (n0 : 0 ≤ n ∧ n ≤ 40) (hl : least ≤ 4096 ∧ most ≤ 4096) (hd : ¬ (stAt least most A L).top - known ≤ 21) (hB : ∀ j, j < L * 4 → B j = A j) (hk : B (4 * L) = 2) (ht : B (4 * L + 1) = t + 10000000000)
    (hk2 : B (4 * L + 4) = k) (ht2 : B (4 * L + 5) = t + 10000000000 + 1000000) (hkk : k = if (stAt least most A L).next ≤ path then 3 else 4) :
    Jn B (L + 2) least most path (if (stAt least most A L).next ≤ path then (stAt least most A L).next else known) (t + 10000000000) (n + 1) := by
  have e := stAt_congr (least := least) (most := most) hB
  have t0 := J.t0
  have I := J.inv
  have hd' : 21 < (stAt least most A L).top - (stAt least most A L).mn := by rw [J.mn]; omega
  have hin := I.next_in hd'
  have hmn := I.mn; have hl0 := I.l0
  have hne : (stAt least most A L).next ≠ -1 := by omega
  have e1 : stAt least most B (L + 1) = { stAt least most A L with lp := t + 10000000000, fl := (stAt least most A L).next } := by
    show mStep (stAt least most B L) (B (4 * L)) (B (4 * L + 1)) = _
    rw [e, hk, ht]; rfl
  have s1 : scrOk least most B (L + 1) := (J.probe n0 hB hk ht).1
  have e2 : stAt least most B (L + 2) = mStep (stAt least most B (L + 1)) k (t + 10000000000 + 1000000) := by
    show mStep (stAt least most B (L + 1)) (B (4 * (L + 1))) (B (4 * (L + 1) + 1)) = _
    rw [show 4 * (L + 1) = 4 * L + 4 from by omega, hk2, show 4 * L + 4 + 1 = 4 * L + 5 from rfl, ht2]
  have s2 : scrOk least most B (L + 2) := by
    refine scr_succ s1 ?_
    rw [show 4 * (L + 1) = 4 * L + 4 from by omega, hk2, show 4 * L + 4 + 1 = 4 * L + 5 from rfl, ht2, e1]
    refine ⟨by omega, .inr (.inr (.inr (.inl ⟨?_, hne⟩)))⟩
    rw [hkk]; split <;> simp
  by_cases hp : (stAt least most A L).next ≤ path
  · rw [if_pos hp] at hkk ⊢
    subst hkk
    obtain ⟨i1, i2⟩ := I.ack (s' := mStep (stAt least most B (L + 1)) 3 (t + 10000000000 + 1000000)) hd' hp (by rw [e1]; rfl) (by rw [e1]; rfl) (by rw [e1]; rfl) (by rw [e1]; rfl) rfl
    have hpot := J.pot
    refine ⟨s2, by rw [e2]; rfl, by rw [e2, e1]; rfl, by rw [e2, e1]; exact J.has, by rw [e2, e1]; exact J.sm, by rw [e2, e1]; rfl, by rw [e2]; exact i1, by rw [e2]; omega, by omega⟩
  · rw [if_neg hp] at hkk ⊢
    subst hkk
    obtain ⟨i1, i2⟩ := I.loss (s' := mStep (stAt least most B (L + 1)) 4 (t + 10000000000 + 1000000)) hd' (by omega) (by rw [e1]; rfl) (by rw [e1]; rfl) (by rw [e1]; rfl) (by rw [e1]; rfl) rfl
    have hpot := J.pot
    refine ⟨s2, by rw [e2]; rfl, by rw [e2, e1]; rfl, by rw [e2, e1]; exact J.has, by rw [e2, e1]; exact J.sm, by rw [e2, e1]; exact J.mn, by rw [e2]; exact i1, by rw [e2]; omega, by omega⟩
/-- The start. -/
theorem Jn.start {A : Nat → Int} {path rtt : Int} (hl : 0 ≤ least) (h1 : least ≤ path) (h2 : path ≤ most) (h3 : most ≤ least + 1023) (hr : 0 ≤ rtt ∧ rtt ≤ 255)
    (a0 : A 0 = 6) (a1 : A 1 = (1 + rtt) * 1000000) (a4 : A 4 = 0) (a5 : A 5 = 1000000000) : Jn A 2 least most path least 1000000000 0 := by
  have e1 : stAt least most A 1 = { ms0 least most with has := true, sm := (1 + rtt) * 1000000 } := by
    show mStep (ms0 least most) (A 0) (A 1) = _
    rw [a0, a1]; rfl
  have e2 : stAt least most A 2 = { ms0 least most with has := true, sm := (1 + rtt) * 1000000, lp := 1000000000 } := by
    show mStep (stAt least most A 1) (A 4) (A 5) = _
    rw [a4, a5, e1]; rfl
  have s1 : scrOk least most A 1 := scr_succ (n := 0) (fun i hi => by omega) (by
    show okStep (ms0 least most) (A 0) (A 1)
    rw [a0, a1]
    exact ⟨by omega, .inr (.inr (.inr (.inr ⟨rfl, rfl, by omega, by omega⟩)))⟩)
  have s2 : scrOk least most A 2 := scr_succ s1 (by
    show okStep (stAt least most A 1) (A 4) (A 5)
    rw [a4, a5]
    exact ⟨by omega, .inl rfl⟩)
  have hI : Inv (stAt least most A 2) least most path := by
    rw [e2]
    exact ⟨hl, Int.le_refl _, h1, h2, h3, Int.le_refl _, .inl ⟨rfl, rfl⟩, .inr rfl, fun h => by cases h⟩
  refine ⟨s2, by rw [e2]; rfl, by rw [e2], by rw [e2], by rw [e2]; show 1000000 ≤ (1 + rtt) * 1000000 ∧ (1 + rtt) * 1000000 ≤ 256000000; omega, by rw [e2]; rfl, hI, ?_, by omega⟩
  rw [e2]
  have := pot_start hl (show least ≤ most by omega) h3
  exact Int.le_trans (Int.le_of_eq (Int.add_zero _)) this
theorem awake {A : Nat → Int} (a0 : A 0 = 6) (a1 : A 1 = 1000000) (a4 : A 4 = 0) (a5 : A 5 = 1000000000) (a8 : A 8 = 2) (a9 : A 9 = 9000000000) : scrOk 1200 1400 A 3 ∧ outA 1200 1400 A 10 = 1300 := by
  have e1 : stAt 1200 1400 A 1 = { ms0 1200 1400 with has := true, sm := 1000000 } := by
    show mStep (ms0 1200 1400) (A 0) (A 1) = _
    rw [a0, a1]; rfl
  have e2 : stAt 1200 1400 A 2 = { ms0 1200 1400 with has := true, sm := 1000000, lp := 1000000000 } := by
    show mStep (stAt 1200 1400 A 1) (A 4) (A 5) = _
    rw [a4, a5, e1]; rfl
  have s1 : scrOk 1200 1400 A 1 := scr_succ (n := 0) (fun i hi => by omega) (by
    show okStep (ms0 1200 1400) (A 0) (A 1)
    rw [a0, a1]
    exact ⟨by omega, .inr (.inr (.inr (.inr ⟨rfl, rfl, by omega, by omega⟩)))⟩)
  have s2 : scrOk 1200 1400 A 2 := scr_succ s1 (by
    show okStep (stAt 1200 1400 A 1) (A 4) (A 5)
    rw [a4, a5]
    exact ⟨by omega, .inl rfl⟩)
  have s3 : scrOk 1200 1400 A 3 := scr_succ s2 (by
    show okStep (stAt 1200 1400 A 2) (A 8) (A 9)
    rw [a8, a9]
    exact ⟨by omega, .inr (.inr (.inl rfl))⟩)
  refine ⟨s3, ?_⟩
  rw [show 10 = 2 * 4 + 2 from rfl, outA_at (by decide), e2, show 4 * 2 = 8 from rfl, a8, show 8 + 1 = 9 from rfl, a9]
  decide
end Go.Proofs.Ytnffahllpagicaa
