/- What the peer's script does, in plain numbers. -/
import Derived.Test.YtjanndmmhjnpcaaDoorQcM
set_option autoImplicit true
set_option relaxedAutoImplicit true
set_option linter.unusedVariables false
set_option linter.unusedSimpArgs false
namespace Go.Proofs.YtjanndmmhjnpcaaDoor
open Go Go.Sy
theorem insA_lst {q : List Int} {k : Nat} {s : Int} (hk : k ≤ q.length) : lst (insA (arr q) q.length k s) (q.length + 1) = q.take k ++ s :: q.drop k := by
  apply List.ext_getElem?
  intro j
  by_cases hj : j < q.length + 1
  · rw [lst_get hj]
    unfold insA
    by_cases h1 : j < k
    · rw [if_pos h1, List.getElem?_append_left (by rw [List.length_take]; omega), List.getElem?_take, if_pos h1, List.getElem?_eq_getElem (by omega), arr_get (List.getElem?_eq_getElem (by omega))]
    · rw [if_neg h1, List.getElem?_append_right (by rw [List.length_take]; omega), List.length_take, Nat.min_eq_left hk]
      by_cases h2 : j = k
      · subst h2
        rw [if_pos rfl, Nat.sub_self]; rfl
      · rw [if_neg h2, if_pos (by omega)]
        obtain ⟨m, hm⟩ : ∃ m, j - k = m + 1 := ⟨j - k - 1, by omega⟩
        rw [hm, List.getElem?_cons_succ, List.getElem?_drop, show k + m = j - 1 by omega, List.getElem?_eq_getElem (by omega), arr_get (List.getElem?_eq_getElem (by omega))]
  · rw [List.getElem?_eq_none (by rw [lst_len]; omega), List.getElem?_eq_none (by rw [List.length_append, List.length_cons, List.length_take, List.length_drop]; omega)]
theorem putL_cases (q : List Int) (s : Int) : (putL q s = q ∧ s ∈ q) ∨ (putL q s = q.take (kx (arr q) s q.length) ++ s :: q.drop (kx (arr q) s q.length) ∧ hasA (arr q) q.length s = false) := by
  unfold putL putA putN
  cases h : hasA (arr q) q.length s with
  | true =>
    left
    simp only [if_true]
    refine ⟨lst_arr q, ?_⟩
    unfold hasA at h
    rw [decide_eq_true_eq] at h
    rw [← h.2]; exact arr_mem h.1
  | false =>
    right
    simp only [Bool.false_eq_true, if_false]
    exact ⟨insA_lst (kx_le _ _ _), trivial⟩
theorem putL_mem {q : List Int} {s x : Int} : x ∈ putL q s ↔ x ∈ q ∨ x = s := by
  rcases putL_cases q s with ⟨h, hs⟩ | ⟨h, _⟩
  · rw [h]
    refine ⟨.inl, ?_⟩
    rintro (h1 | rfl)
    · exact h1
    · exact hs
  · rw [h, List.mem_append, List.mem_cons]
    constructor
    · rintro (h1 | rfl | h1)
      · exact .inl (List.mem_of_mem_take h1)
      · exact .inr rfl
      · exact .inl (List.mem_of_mem_drop h1)
    · rintro (h1 | rfl)
      · rw [← List.take_append_drop (kx (arr q) s q.length) q, List.mem_append] at h1
        rcases h1 with h1 | h1
        · exact .inl h1
        · exact .inr (.inr h1)
      · exact .inr (.inl rfl)
theorem putL_up {q : List Int} {s : Int} (h : Up q) (h0 : 0 ≤ s) (h1 : s ≤ 255) : Up (putL q s) := by
  refine ⟨?_, fun x hx => ?_⟩
  · rcases putL_cases q s with ⟨e, _⟩ | ⟨e, hn⟩
    · rw [e]; exact h.1
    · rw [e]
      have hkl := kx_le (arr q) s q.length
      have hlow : ∀ x ∈ q.take (kx (arr q) s q.length), x < s := fun x hx => by
        obtain ⟨j, hj⟩ := List.getElem?_of_mem hx
        rw [List.getElem?_take] at hj
        split at hj
        · rename_i hjk
          have := kx_lt (arr q) s q.length j hjk
          rw [arr_get hj] at this; exact this
        · cases hj
      have hhigh : ∀ x ∈ q.drop (kx (arr q) s q.length), s < x := fun x hx => by
        obtain ⟨j, hj⟩ := List.getElem?_of_mem hx
        rw [List.getElem?_drop] at hj
        have hlt : kx (arr q) s q.length + j < q.length := (List.getElem?_eq_some_iff.1 hj).1
        have hk : kx (arr q) s q.length < q.length := by omega
        have hge := kx_ge (arr q) s q.length hk
        have hne : ¬ arr q (kx (arr q) s q.length) = s := fun he => by
          simp only [hasA, hk, he, and_self, decide_true] at hn
          cases hn
        have hx' : arr q (kx (arr q) s q.length + j) = x := arr_get hj
        cases j with
        | zero => rw [Nat.add_zero] at hx'; omega
        | succ j =>
          have := (srt_arr h).2 (kx (arr q) s q.length) (kx (arr q) s q.length + (j + 1)) (by omega) hlt
          omega
      rw [List.pairwise_append]
      refine ⟨h.1.sublist (List.take_sublist ..), ?_, fun a ha b hb => ?_⟩
      · rw [List.pairwise_cons]
        exact ⟨hhigh, h.1.sublist (List.drop_sublist ..)⟩
      · have := hlow a ha
        rcases List.mem_cons.1 hb with rfl | hb
        · exact this
        · have := hhigh b hb; omega
  · rcases putL_mem.1 hx with h2 | rfl
    · exact h.2 x h2
    · exact ⟨h0, h1⟩
theorem putL_le (q : List Int) (s : Int) : (putL q s).length ≤ q.length + 1 := by rw [putL_len]; exact putN_le _ _ _
structure QS where
  q : List Int := []
  act : Int := 0
  hi : Int := 0
  pk : Int := 0
  per : Int := 0
  ready : Bool := false
  tok : Bool := false
def perOf (rnd : Int) : Int := 5000 + rnd.tmod 10000
def QS.sh (s : QS) : Bool := shd s.q.length s.act s.pk s.per s.ready
def QS.up (s : QS) (sq pr : Int) : Bool := adU s.act s.hi sq pr
def QS.step (s : QS) (rnd k sq pr : Int) : QS :=
  if k = 0 then { q := adQ s.q s.act s.hi sq pr, act := adA s.q s.act s.hi sq pr, hi := adH s.act s.hi sq pr, pk := if s.up sq pr then 0 else s.pk, per := if s.up sq pr then perOf rnd else s.per, ready := s.ready, tok := s.tok || s.up sq pr }
  else if k = 1 then { s with ready := true }
  else if k = 2 then if s.sh then { q := s.q.tail, act := s.q.headD 0, hi := s.act, pk := 0, per := perOf rnd, ready := s.ready, tok := true } else s
  else { s with pk := s.pk + min sq 100000 }
def QS.code (s : QS) (k sq pr : Int) : Int := if k = 0 ∧ 4 ≤ (adQ s.q s.act s.hi sq pr).length then 9 else 0
def QS.now (s : QS) (k : Int) : Int := if k = 2 then (if s.sh then s.q.headD 0 else s.act) else -1
def QS.ret (s : QS) (k sq pr : Int) : List Int := if k = 0 then adR s.q s.act s.hi sq pr else if k = 2 ∧ s.sh = true then [s.act] else []
def QS.add (s : QS) (k sq pr : Int) : List Int := if k = 0 ∧ s.up sq pr = true then [adA s.q s.act s.hi sq pr] else if k = 2 ∧ s.sh = true then [s.q.headD 0] else []
def QS.off (s : QS) (k sq pr : Int) : List Int := if s.tok = true ∧ ((k = 0 ∧ s.up sq pr = true) ∨ (k = 2 ∧ s.sh = true)) then [s.act] else []
def stq (S : Nat → Int) (rnd : Int) : Nat → QS
  | 0 => {}
  | i + 1 => (stq S rnd i).step rnd (S (i * 5)) (S (i * 5 + 1)) (S (i * 5 + 2))
def SOk (S : Nat → Int) (n : Nat) : Prop := ∀ i, i < n → (0 ≤ S (i * 5) ∧ S (i * 5) ≤ 3) ∧ (0 ≤ S (i * 5 + 1) ∧ S (i * 5 + 1) ≤ 25500) ∧ (0 ≤ S (i * 5 + 2) ∧ S (i * 5 + 2) ≤ S (i * 5 + 1)) ∧ (S (i * 5) = 0 → S (i * 5 + 1) ≤ 255 ∧ S (i * 5 + 3) = S (i * 5 + 1) ∧ S (i * 5 + 4) = S (i * 5 + 1))
structure QI (s : QS) (i : Nat) : Prop where
  up : Up s.q
  ha : s.hi ≤ s.act
  gt : ∀ x ∈ s.q, s.act < x ∧ s.hi ≤ x
  c0 : 0 ≤ s.act
  c1 : s.act ≤ 255
  h0 : 0 ≤ s.hi
  n : s.q.length ≤ i
  p0 : 0 ≤ s.pk
  p1 : s.pk ≤ 100000 * i
  r0 : 0 ≤ s.per
  r1 : s.per ≤ 15000
theorem per_bd {r : Int} (h : 0 ≤ r) : 0 ≤ perOf r ∧ perOf r ≤ 15000 := by
  unfold perOf
  rw [Int.tmod_eq_emod_of_nonneg h]
  omega
theorem up_tail {l : List Int} (h : Up l) : Up l.tail := ⟨h.1.sublist (List.tail_sublist l), fun x hx => h.2 x (List.mem_of_mem_tail hx)⟩
theorem head_mem {l : List Int} (h : l ≠ []) : l.headD 0 ∈ l := by cases l with | nil => exact absurd rfl h | cons a t => exact List.mem_cons_self ..
theorem head_lt {l : List Int} (h : Up l) {x : Int} (hx : x ∈ l.tail) : l.headD 0 < x := by
  cases l with
  | nil => cases hx
  | cons a t => exact (List.pairwise_cons.1 h.1).1 x hx
theorem QI.frame {s : QS} {i : Nat} (h : QI s i) {rnd sq pr : Int} (hr : 0 ≤ rnd) (h1 : 0 ≤ sq) (h2 : sq ≤ 255) (h3 : 0 ≤ pr) (h4 : pr ≤ sq) : QI (s.step rnd 0 sq pr) (i + 1) := by
  have hp := per_bd hr
  have hp0 := h.p0; have hp1 := h.p1; have hr0 := h.r0; have hr1 := h.r1; have hn := h.n; have hha := h.ha
  unfold QS.step
  rw [if_pos rfl]
  unfold QS.up
  cases ht : adT s.act s.hi sq with
  | true =>
    have hu : adU s.act s.hi sq pr = false := by simp [adU, ht]
    have e1 : adQ s.q s.act s.hi sq pr = s.q := by simp [adQ, ht]
    have e2 : adA s.q s.act s.hi sq pr = s.act := by simp [adA, hu]
    have e3 : adH s.act s.hi sq pr = s.hi := by simp [adH, ht]
    rw [e1, e2, e3, hu]
    simp only [Bool.false_eq_true, if_false, Bool.or_false]
    exact ⟨h.up, hha, h.gt, h.c0, h.c1, h.h0, by show s.q.length ≤ i + 1; omega, hp0, by simp only [Int.natCast_add]; omega, hr0, hr1⟩
  | false =>
    have hs : ¬ (sq < s.act ∨ sq < s.hi) := by simpa [adT] using ht
    have hkm : ∀ x ∈ kq s.q pr, x ∈ s.q ∧ pr ≤ x := fun x hx => by
      obtain ⟨a, b⟩ := List.mem_filter.1 hx
      exact ⟨a, by simpa using b⟩
    have hkl : (kq s.q pr).length ≤ s.q.length := List.length_filter_le ..
    cases hu : adU s.act s.hi sq pr with
    | false =>
      have e1 : adQ s.q s.act s.hi sq pr = adP s.q s.act sq pr := by simp [adQ, ht, hu]
      have e2 : adA s.q s.act s.hi sq pr = s.act := by simp [adA, hu]
      have e3 : adH s.act s.hi sq pr = max s.hi pr := by simp [adH, ht, hu]
      have hu' : ¬ (sq ≠ s.act ∧ s.act < pr) := by simpa [adU, ht] using hu
      rw [e1, e2, e3]
      simp only [Bool.false_eq_true, if_false, Bool.or_false]
      by_cases hsa : sq = s.act
      · have e4 : adP s.q s.act sq pr = kq s.q pr := by simp [adP, hsa]
        rw [e4]
        exact ⟨up_kq h.up pr, by simp only []; omega, fun x hx => ⟨(h.gt x (hkm x hx).1).1, by have := (h.gt x (hkm x hx).1).2; have := (hkm x hx).2; simp only []; omega⟩, h.c0, h.c1, by have := h.h0; simp only []; omega, by simp only []; omega, hp0, by simp only [Int.natCast_add]; omega, hr0, hr1⟩
      · have e4 : adP s.q s.act sq pr = putL (kq s.q pr) sq := by simp [adP, hsa]
        rw [e4]
        have hpl := putL_le (kq s.q pr) sq
        refine ⟨putL_up (up_kq h.up pr) h1 h2, by simp only []; omega, fun x hx => ?_, h.c0, h.c1, by have := h.h0; simp only []; omega, by simp only []; omega, hp0, by simp only [Int.natCast_add]; omega, hr0, hr1⟩
        rcases putL_mem.1 hx with hx | rfl
        · exact ⟨(h.gt x (hkm x hx).1).1, by have := (h.gt x (hkm x hx).1).2; have := (hkm x hx).2; simp only []; omega⟩
        · exact ⟨by simp only []; omega, by simp only []; omega⟩
    | true =>
      have hu' : sq ≠ s.act ∧ s.act < pr := by simpa [adU, ht] using hu
      have e4 : adP s.q s.act sq pr = putL (kq s.q pr) sq := by simp [adP, hu'.1]
      have e1 : adQ s.q s.act s.hi sq pr = (putL (kq s.q pr) sq).tail := by simp [adQ, ht, hu, e4]
      have e2 : adA s.q s.act s.hi sq pr = (putL (kq s.q pr) sq).headD 0 := by simp [adA, hu, e4]
      have e3 : adH s.act s.hi sq pr = max (max s.hi pr) s.act := by simp [adH, ht, hu]
      rw [e1, e2, e3]
      simp only [if_true, Bool.or_true]
      have hpl := putL_le (kq s.q pr) sq
      have hup := putL_up (up_kq h.up pr) h1 h2
      have hne : putL (kq s.q pr) sq ≠ [] := fun he => by
        have : sq ∈ putL (kq s.q pr) sq := putL_mem.2 (.inr rfl)
        rw [he] at this; cases this
      have hge : ∀ x ∈ putL (kq s.q pr) sq, pr ≤ x := fun x hx => by
        rcases putL_mem.1 hx with hx | rfl
        · exact (hkm x hx).2
        · exact h4
      have hhd := head_mem hne
      have hb := hup.2 _ hhd
      have hgh := hge _ hhd
      refine ⟨up_tail hup, by simp only []; omega, fun x hx => ?_, hb.1, hb.2, by have := h.h0; simp only []; omega, by simp only [List.length_tail]; omega, Int.le_refl 0, by simp only [Int.natCast_add]; omega, hp.1, hp.2⟩
      have := head_lt hup hx
      exact ⟨this, by simp only []; omega⟩
theorem QI.next {s : QS} {i : Nat} (h : QI s i) (hs : s.sh = true) {rnd : Int} (hr : 0 ≤ rnd) : 0 < s.q.length ∧ QI { q := s.q.tail, act := s.q.headD 0, hi := s.act, pk := 0, per := perOf rnd, ready := s.ready, tok := true } (i + 1) := by
  have hp := per_bd hr
  have hn := h.n
  have hpos : 0 < s.q.length := by
    unfold QS.sh shd at hs
    simp only [Bool.and_eq_true, Bool.or_eq_true, decide_eq_true_eq] at hs
    omega
  have hne : s.q ≠ [] := fun he => by rw [he] at hpos; exact absurd hpos (Nat.lt_irrefl _)
  have hhd := head_mem hne
  have hb := h.up.2 _ hhd
  have hg := h.gt _ hhd
  refine ⟨hpos, up_tail h.up, by simp only []; omega, fun x hx => ?_, hb.1, hb.2, h.c0, by simp only [List.length_tail]; omega, Int.le_refl 0, by simp only [Int.natCast_add]; omega, hp.1, hp.2⟩
  have := head_lt h.up hx
  exact ⟨this, by simp only []; omega⟩
theorem QI.mono {s : QS} {i : Nat} (h : QI s i) : QI s (i + 1) := ⟨h.up, h.ha, h.gt, h.c0, h.c1, h.h0, by have := h.n; omega, h.p0, by have := h.p1; simp only [Int.natCast_add]; omega, h.r0, h.r1⟩
theorem stq_ok {S : Nat → Int} {n : Nat} (hS : SOk S n) {rnd : Int} (hr : 0 ≤ rnd) : ∀ i, i ≤ n → QI (stq S rnd i) i
  | 0, _ => ⟨⟨List.Pairwise.nil, (fun x hx => absurd hx (List.not_mem_nil))⟩, Int.le_refl 0, (fun x hx => absurd hx (List.not_mem_nil)), Int.le_refl 0, (by show (0 : Int) ≤ 255; decide), Int.le_refl 0, Nat.le_refl 0, Int.le_refl 0, (by show (0 : Int) ≤ 100000 * ((0 : Nat) : Int); decide), Int.le_refl 0, (by show (0 : Int) ≤ 15000; decide)⟩
  | i + 1, hi => by
    have ih := stq_ok hS hr i (by omega)
    obtain ⟨⟨k0, k1⟩, ⟨s0, s1⟩, ⟨p0, p1⟩, hz⟩ := hS i (by omega)
    show QI ((stq S rnd i).step rnd (S (i * 5)) (S (i * 5 + 1)) (S (i * 5 + 2))) (i + 1)
    by_cases h0 : S (i * 5) = 0
    · rw [h0]
      exact ih.frame hr s0 (hz h0).1 p0 p1
    · unfold QS.step
      rw [if_neg h0]
      by_cases h1 : S (i * 5) = 1
      · rw [if_pos h1]
        have := ih.mono
        exact ⟨this.up, this.ha, this.gt, this.c0, this.c1, this.h0, this.n, this.p0, this.p1, this.r0, this.r1⟩
      · rw [if_neg h1]
        by_cases h2 : S (i * 5) = 2
        · rw [if_pos h2]
          cases hs : (stq S rnd i).sh with
          | true => simp only [if_true]; exact (ih.next hs hr).2
          | false => simp only [Bool.false_eq_true, if_false]; exact ih.mono
        · rw [if_neg h2]
          have := ih.mono
          have hp0 := ih.p0; have hp1 := ih.p1
          exact ⟨this.up, this.ha, this.gt, this.c0, this.c1, this.h0, this.n, by simp only []; omega, by simp only [Int.natCast_add]; omega, this.r0, this.r1⟩
def codeAt (S : Nat → Int) (r : Int) (i : Nat) : Int := (stq S r i).code (S (i * 5)) (S (i * 5 + 1)) (S (i * 5 + 2))
def nowAt (S : Nat → Int) (r : Int) (i : Nat) : Int := (stq S r i).now (S (i * 5))
def retAt (S : Nat → Int) (r : Int) (i : Nat) : List Int := (stq S r i).ret (S (i * 5)) (S (i * 5 + 1)) (S (i * 5 + 2))
def addAt (S : Nat → Int) (r : Int) (i : Nat) : List Int := (stq S r i).add (S (i * 5)) (S (i * 5 + 1)) (S (i * 5 + 2))
def offAt (S : Nat → Int) (r : Int) (i : Nat) : List Int := (stq S r i).off (S (i * 5)) (S (i * 5 + 1)) (S (i * 5 + 2))
def colOf (S : Nat → Int) (r : Int) (i f : Nat) : List Int := if f = 0 then retAt S r i else if f = 1 then addAt S r i else offAt S r i
def colA (S : Nat → Int) (r : Int) (t : Nat) : Int := if t % 6 = 0 then codeAt S r (t / 6) else if t % 6 = 1 then nowAt S r (t / 6) else 0
def colL (S : Nat → Int) (r : Int) (t : Nat) : Int := ((colOf S r (t / 3) (t % 3)).length : Int)
def colC (S : Nat → Int) (r : Int) (t : Nat) : Int := arr (colOf S r (t / 64 / 3) (t / 64 % 3)) (t % 64)
end Go.Proofs.YtjanndmmhjnpcaaDoor
