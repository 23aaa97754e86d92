/- The search for a path's size behind a row of steps, in plain numbers. -/
import Derived.Test.YtnffahllpagicaaSyQ
set_option linter.unusedVariables false
set_option linter.unusedSimpArgs false
namespace Go.Proofs.Ytnffahllpagicaa
open Go Go.Sy

theorem tdn {a b : Int} (h : 0 ≤ a) : a.tdiv b = a / b := Int.tdiv_eq_ediv_of_nonneg h
theorem tmn {a b : Int} (h : 0 ≤ a) : a.tmod b = a % b := Int.tmod_eq_emod_of_nonneg h
/-- The greatest size that may still come through. -/
def mxL (a b c : Int) : Int := if b = -1 then a else if c = -1 then b else c
def akA (a b c s : Int) : Int := if s < a then a else if s < b then b else if s < c then c else a
def akB (a b c s : Int) : Int := if s < a then b else if s < b then c else if s < c then -1 else b
def akC (a b c s : Int) : Int := if s < a then c else if s < b then -1 else if s < c then -1 else c
def loA (a b c s : Int) : Int := if s < a then s else a
def loB (a b c s : Int) : Int := if s < a then a else if s < b then s else b
def loC (a b c s : Int) : Int := if s < a then b else if s < b then b else if s < c then s else c
structure MS where
  has : Bool
  sm : Int
  lp : Int
  fl : Int
  mn : Int
  a : Int
  b : Int
  c : Int
  wl : Bool
theorem MS.ext {s t : MS} (h1 : s.has = t.has) (h2 : s.sm = t.sm) (h3 : s.lp = t.lp) (h4 : s.fl = t.fl) (h5 : s.mn = t.mn) (h6 : s.a = t.a) (h7 : s.b = t.b) (h8 : s.c = t.c) (h9 : s.wl = t.wl) : s = t := by
  cases s; cases t; simp_all
def ms0 (least most : Int) : MS := ⟨false, 100000000, 0, -1, least, most, -1, -1, false⟩
def MS.top (s : MS) : Int := mxL s.a s.b s.c
def MS.next (s : MS) : Int := (s.mn + (if s.wl = true then s.a else s.top)) / 2
def MS.is (s : MS) (t : Int) : Bool := decide (s.lp ≠ 0 ∧ s.fl = -1 ∧ ¬ s.top - s.mn ≤ 21 ∧ s.lp + 5 * s.sm ≤ t)
def mStep (s : MS) (k t : Int) : MS :=
  if k = 0 then { s with lp := t }
  else if k = 1 then s
  else if k = 2 then { s with lp := t, fl := s.next }
  else if k = 3 then { s with fl := -1, mn := s.fl, a := akA s.a s.b s.c s.fl, b := akB s.a s.b s.c s.fl, c := akC s.a s.b s.c s.fl, wl := false }
  else if k = 4 then { s with fl := -1, a := loA s.a s.b s.c s.fl, b := loB s.a s.b s.c s.fl, c := loC s.a s.b s.c s.fl, wl := true }
  else { s with has := true, sm := t }
def okStep (s : MS) (k t : Int) : Prop :=
  (0 ≤ t ∧ t ≤ 1152921504606846976) ∧ (k = 0 ∨ k = 1 ∨ k = 2 ∨ ((k = 3 ∨ k = 4) ∧ s.fl ≠ -1) ∨ (k = 6 ∧ s.has = false ∧ 1000000 ≤ t ∧ t ≤ 256000000))
def stAt (least most : Int) (st : Nat → Int) : Nat → MS
  | 0 => ms0 least most
  | i + 1 => mStep (stAt least most st i) (st (4 * i)) (st (4 * i + 1))
def scrOk (least most : Int) (st : Nat → Int) (n : Nat) : Prop := ∀ i, i < n → okStep (stAt least most st i) (st (4 * i)) (st (4 * i + 1))
def mOut (s s' : MS) (k t : Int) : Nat → Int
  | 0 => b2i (if k = 1 then s.is t else false)
  | 1 => b2i (decide (s'.top - s'.mn ≤ 21))
  | 2 => if k = 2 then s.next else 0
  | _ => s'.mn
def outA (least most : Int) (st : Nat → Int) (j : Nat) : Int := mOut (stAt least most st (j / 4)) (stAt least most st (j / 4 + 1)) (st (4 * (j / 4))) (st (4 * (j / 4) + 1)) (j % 4)
def MS.ok (s : MS) : Prop := ((0 ≤ s.mn ∧ s.mn ≤ 4096) ∧ (0 ≤ s.a ∧ s.a ≤ 4096) ∧ (-1 ≤ s.b ∧ s.b ≤ 4096) ∧ -1 ≤ s.c ∧ s.c ≤ 4096) ∧ (s.fl = -1 ∨ 0 ≤ s.fl ∧ s.fl ≤ 4096) ∧ (0 ≤ s.lp ∧ s.lp ≤ 1152921504606846976) ∧ 0 ≤ s.sm ∧ s.sm ≤ 1000000000
theorem mxL_ok {a b c : Int} (ha : 0 ≤ a ∧ a ≤ 4096) (hb : -1 ≤ b ∧ b ≤ 4096) (hc : -1 ≤ c ∧ c ≤ 4096) : 0 ≤ mxL a b c ∧ mxL a b c ≤ 4096 := by
  unfold mxL; (repeat' split) <;> omega
theorem next_ok {s : MS} (h : s.ok) : 0 ≤ s.next ∧ s.next ≤ 4096 := by
  obtain ⟨⟨h1, h2, h3, h4⟩, _⟩ := h
  have := mxL_ok h2 h3 h4
  unfold MS.next MS.top; split <;> omega
theorem ak_ok {a b c s : Int} (ha : 0 ≤ a ∧ a ≤ 4096) (hb : -1 ≤ b ∧ b ≤ 4096) (hc : -1 ≤ c ∧ c ≤ 4096) (hs : 0 ≤ s ∧ s ≤ 4096) :
    (0 ≤ akA a b c s ∧ akA a b c s ≤ 4096) ∧ (-1 ≤ akB a b c s ∧ akB a b c s ≤ 4096) ∧ -1 ≤ akC a b c s ∧ akC a b c s ≤ 4096 := by
  unfold akA akB akC; (repeat' split) <;> omega
theorem lo_ok {a b c s : Int} (ha : 0 ≤ a ∧ a ≤ 4096) (hb : -1 ≤ b ∧ b ≤ 4096) (hc : -1 ≤ c ∧ c ≤ 4096) (hs : 0 ≤ s ∧ s ≤ 4096) :
    (0 ≤ loA a b c s ∧ loA a b c s ≤ 4096) ∧ (-1 ≤ loB a b c s ∧ loB a b c s ≤ 4096) ∧ -1 ≤ loC a b c s ∧ loC a b c s ≤ 4096 := by
  unfold loA loB loC; (repeat' split) <;> omega
theorem mStep_ok {s : MS} {k t : Int} (h : s.ok) (o : okStep s k t) : (mStep s k t).ok := by
  have hn := next_ok h
  obtain ⟨⟨h1, h2, h3, h4⟩, h5, h6, h7⟩ := h
  obtain ⟨⟨t0, t1⟩, hk⟩ := o
  unfold mStep
  by_cases k0 : k = 0
  · rw [if_pos k0]; exact ⟨⟨h1, h2, h3, h4⟩, h5, ⟨t0, t1⟩, h7⟩
  rw [if_neg k0]
  by_cases k1 : k = 1
  · rw [if_pos k1]; exact ⟨⟨h1, h2, h3, h4⟩, h5, h6, h7⟩
  rw [if_neg k1]
  by_cases k2 : k = 2
  · rw [if_pos k2]; exact ⟨⟨h1, h2, h3, h4⟩, .inr hn, ⟨t0, t1⟩, h7⟩
  rw [if_neg k2]
  by_cases k3 : k = 3
  · rw [if_pos k3]
    have hf : 0 ≤ s.fl ∧ s.fl ≤ 4096 := by omega
    obtain ⟨q1, q2, q3⟩ := ak_ok h2 h3 h4 hf
    exact ⟨⟨hf, q1, q2, q3⟩, .inl rfl, h6, h7⟩
  rw [if_neg k3]
  by_cases k4 : k = 4
  · rw [if_pos k4]
    have hf : 0 ≤ s.fl ∧ s.fl ≤ 4096 := by omega
    obtain ⟨q1, q2, q3⟩ := lo_ok h2 h3 h4 hf
    exact ⟨⟨h1, q1, q2, q3⟩, .inl rfl, h6, h7⟩
  rw [if_neg k4]
  exact ⟨⟨h1, h2, h3, h4⟩, h5, h6, by show (0 : Int) ≤ t ∧ t ≤ 1000000000; omega⟩
theorem stAt_ok {least most : Int} {st : Nat → Int} {n : Nat} (hl : 0 ≤ least ∧ least ≤ 4096) (hm : 0 ≤ most ∧ most ≤ 4096) (h : scrOk least most st n) : ∀ i, i ≤ n → (stAt least most st i).ok
  | 0, _ => ⟨⟨hl, hm, ⟨by show (-1 : Int) ≤ -1; decide, by show (-1 : Int) ≤ 4096; decide⟩, by show (-1 : Int) ≤ -1; decide, by show (-1 : Int) ≤ 4096; decide⟩, .inl rfl, ⟨by show (0 : Int) ≤ 0; decide, by show (0 : Int) ≤ _; decide⟩, by show (0 : Int) ≤ 100000000; decide, by show (100000000 : Int) ≤ _; decide⟩
  | i + 1, hi => mStep_ok (stAt_ok hl hm h i (by omega)) (h i (by omega))
end Go.Proofs.Ytnffahllpagicaa
