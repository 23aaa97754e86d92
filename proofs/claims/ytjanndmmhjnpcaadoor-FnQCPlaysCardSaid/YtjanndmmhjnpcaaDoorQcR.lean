/- No retired id comes back, none below what was asked for: in plain numbers. -/
import Derived.Test.YtjanndmmhjnpcaaDoorQcS
set_option autoImplicit true
set_option relaxedAutoImplicit true
set_option linter.unusedVariables false
set_option linter.unusedSimpArgs false
namespace Go.Proofs.YtjanndmmhjnpcaaDoor
open Go Go.Sy
theorem frame_law {s : QS} {i : Nat} (h : QI s i) {rnd sq pr : Int} (h1 : 0 ≤ sq) (h2 : sq ≤ 255) (h3 : 0 ≤ pr) (h4 : pr ≤ sq) :
    s.act ≤ (s.step rnd 0 sq pr).act ∧ pr ≤ (s.step rnd 0 sq pr).act ∧ ∀ x ∈ s.ret 0 sq pr, 0 ≤ x ∧ x < (s.step rnd 0 sq pr).act := by
  have hha := h.ha; have hc0 := h.c0
  have ea : (s.step rnd 0 sq pr).act = adA s.q s.act s.hi sq pr := by simp [QS.step]
  have er : s.ret 0 sq pr = adR s.q s.act s.hi sq pr := by simp [QS.ret]
  rw [ea, er]
  have hgm : ∀ x ∈ gq s.q pr, x ∈ s.q ∧ x < pr := fun x hx => by
    obtain ⟨a, b⟩ := List.mem_filter.1 hx
    exact ⟨a, by simpa using b⟩
  have hkm : ∀ x ∈ kq s.q pr, x ∈ s.q ∧ pr ≤ x := fun x hx => by
    obtain ⟨a, b⟩ := List.mem_filter.1 hx
    exact ⟨a, by simpa using b⟩
  cases ht : adT s.act s.hi sq with
  | true =>
    have hu : adU s.act s.hi sq pr = false := by simp [adU, ht]
    have hs : sq < s.act ∨ sq < s.hi := by simpa [adT] using ht
    have e2 : adA s.q s.act s.hi sq pr = s.act := by simp [adA, hu]
    have e3 : adR s.q s.act s.hi sq pr = [sq] := by simp [adR, ht]
    rw [e2, e3]
    refine ⟨Int.le_refl _, by omega, fun x hx => ?_⟩
    have : x = sq := by simpa using hx
    omega
  | false =>
    have hs : ¬ (sq < s.act ∨ sq < s.hi) := by simpa [adT] using ht
    cases hu : adU s.act s.hi sq pr with
    | false =>
      have hu' : ¬ (sq ≠ s.act ∧ s.act < pr) := by simpa [adU, ht] using hu
      have e2 : adA s.q s.act s.hi sq pr = s.act := by simp [adA, hu]
      have e3 : adR s.q s.act s.hi sq pr = gq s.q pr := by simp [adR, ht, hu]
      rw [e2, e3]
      have hpa : pr ≤ s.act := by
        by_cases hsa : sq = s.act
        · omega
        · omega
      refine ⟨Int.le_refl _, hpa, fun x hx => ?_⟩
      obtain ⟨a, b⟩ := hgm x hx
      have := (h.gt x a).1
      omega
    | true =>
      have hu' : sq ≠ s.act ∧ s.act < pr := by simpa [adU, ht] using hu
      have e4 : adP s.q s.act sq pr = putL (kq s.q pr) sq := by simp [adP, hu'.1]
      have e2 : adA s.q s.act s.hi sq pr = (putL (kq s.q pr) sq).headD 0 := by simp [adA, hu, e4]
      have e3 : adR s.q s.act s.hi sq pr = gq s.q pr ++ [s.act] := by simp [adR, ht, hu]
      rw [e2, e3]
      have hne : putL (kq s.q pr) sq ≠ [] := fun he => by
        have : sq ∈ putL (kq s.q pr) sq := putL_mem.2 (.inr rfl)
        rw [he] at this; cases this
      have hge : ∀ x ∈ putL (kq s.q pr) sq, pr ≤ x := fun x hx => by
        rcases putL_mem.1 hx with hx | rfl
        · exact (hkm x hx).2
        · exact h4
      have hgh := hge _ (head_mem hne)
      refine ⟨by omega, hgh, fun x hx => ?_⟩
      rcases List.mem_append.1 hx with hx | hx
      · obtain ⟨a, b⟩ := hgm x hx
        have := (h.up.2 x a).1
        omega
      · have : x = s.act := by simpa using hx
        omega
theorem step_law {S : Nat → Int} {n : Nat} (hS : SOk S n) {r : Int} (hr : 0 ≤ r) {i : Nat} (hi : i < n) :
    (stq S r i).act ≤ (stq S r (i + 1)).act ∧ (S (i * 5) = 0 → S (i * 5 + 2) ≤ (stq S r (i + 1)).act) ∧ (∀ x ∈ retAt S r i, 0 ≤ x ∧ x < (stq S r (i + 1)).act) ∧ (S (i * 5) = 2 → nowAt S r i = (stq S r (i + 1)).act) := by
  have h := stq_ok hS hr i (by omega)
  obtain ⟨⟨k0, k1⟩, ⟨s0, s1⟩, ⟨p0, p1⟩, hz⟩ := hS i hi
  have e : stq S r (i + 1) = (stq S r i).step r (S (i * 5)) (S (i * 5 + 1)) (S (i * 5 + 2)) := rfl
  by_cases h0 : S (i * 5) = 0
  · obtain ⟨z1, z2, z3⟩ := hz h0
    obtain ⟨a, b, c⟩ := frame_law h (rnd := r) s0 z1 p0 p1
    rw [e]
    unfold retAt
    rw [h0]
    exact ⟨a, fun _ => b, c, fun h2 => by omega⟩
  · by_cases h2 : S (i * 5) = 2
    · cases hs : (stq S r i).sh with
      | true =>
        obtain ⟨hpos, hn⟩ := h.next hs hr
        have hne : (stq S r i).q ≠ [] := fun he => by rw [he] at hpos; exact absurd hpos (Nat.lt_irrefl _)
        have hg := h.gt _ (head_mem hne)
        obtain ⟨w1, w2, w3, w4, w5, w6⟩ : codeAt S r i = 0 ∧ nowAt S r i = (stq S r i).q.headD 0 ∧ retAt S r i = [(stq S r i).act] ∧ True ∧ True ∧ (stq S r (i + 1)).act = (stq S r i).q.headD 0 := by
          refine ⟨?_, ?_, ?_, trivial, trivial, ?_⟩
          · simp [codeAt, QS.code, h2]
          · simp [nowAt, QS.now, h2, hs]
          · simp [retAt, QS.ret, h2, hs]
          · rw [e]; simp [QS.step, h2, hs]
        rw [w6, w3, w2]
        refine ⟨by omega, fun h => by omega, fun x hx => ?_, fun _ => rfl⟩
        have : x = (stq S r i).act := by simpa using hx
        have := h.c0
        omega
      | false =>
        have w3 : retAt S r i = [] := by simp [retAt, QS.ret, h2, hs]
        have w2 : nowAt S r i = (stq S r i).act := by simp [nowAt, QS.now, h2, hs]
        have w6 : (stq S r (i + 1)).act = (stq S r i).act := by rw [e]; simp [QS.step, h2, hs]
        rw [w6, w3, w2]
        exact ⟨Int.le_refl _, fun h => by omega, (fun x hx => absurd hx List.not_mem_nil), fun _ => rfl⟩
    · have w3 : retAt S r i = [] := by simp [retAt, QS.ret, h0, h2]
      have w6 : (stq S r (i + 1)).act = (stq S r i).act := by
        rw [e]
        unfold QS.step
        rw [if_neg h0]
        by_cases h1 : S (i * 5) = 1
        · rw [if_pos h1]
        · rw [if_neg h1, if_neg h2]
      rw [w6, w3]
      exact ⟨Int.le_refl _, fun h => absurd h h0, (fun x hx => absurd hx List.not_mem_nil), fun h => absurd h h2⟩
end Go.Proofs.YtjanndmmhjnpcaaDoor
