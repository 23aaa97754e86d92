/- The search comes to its end in time, in plain numbers. -/
import Derived.Test.YtnffahllpagicaaMtN
set_option linter.unusedVariables false
set_option linter.unusedSimpArgs false
set_option maxHeartbeats 4000000
namespace Go.Proofs.Ytnffahllpagicaa
open Go Go.Sy

def lev (T : Int) : Int := if T ≤ 42 then 1 else if T ≤ 84 then 2 else if T ≤ 168 then 3 else if T ≤ 336 then 4 else if T ≤ 672 then 5 else 6
def qq (T : Int) : Int := if T ≤ 42 then 21 else if T ≤ 84 then 42 else if T ≤ 168 then 84 else if T ≤ 336 then 168 else if T ≤ 672 then 336 else 672
def low (x m q : Int) : Int := if x ≠ -1 ∧ x - m ≤ q then 1 else 0
def potf (T h w : Int) : Int := if T ≤ 21 then 0 else 6 * (lev T - 1) + 2 * (3 - h) + w
def hh (s : MS) (q : Int) : Int := low s.a s.mn q + low s.b s.mn q + low s.c s.mn q
def pot (s : MS) : Int := potf (s.top - s.mn) (hh s (qq (s.top - s.mn))) (b2i s.wl)
theorem low_cases (x m q : Int) : (low x m q = 1 ∧ x ≠ -1 ∧ x - m ≤ q) ∨ (low x m q = 0 ∧ (x = -1 ∨ q < x - m)) := by
  unfold low; split <;> omega
theorem lev_cases (T : Int) (h : T ≤ 1344) : (T ≤ 42 ∧ lev T = 1 ∧ qq T = 21) ∨ (42 < T ∧ T ≤ 84 ∧ lev T = 2 ∧ qq T = 42) ∨ (84 < T ∧ T ≤ 168 ∧ lev T = 3 ∧ qq T = 84) ∨ (168 < T ∧ T ≤ 336 ∧ lev T = 4 ∧ qq T = 168) ∨ (336 < T ∧ T ≤ 672 ∧ lev T = 5 ∧ qq T = 336) ∨ (672 < T ∧ lev T = 6 ∧ qq T = 672) := by
  unfold lev qq; (repeat' split) <;> omega
theorem qq_half (T : Int) (h0 : 21 < T) (h : T ≤ 1344) : qq T < T ∧ T ≤ 2 * qq T := by
  rcases lev_cases T h with h | h | h | h | h | h <;> omega
theorem potf_le {T T' h h' w w' : Int} (hT : 21 < T) (hT1 : T ≤ 1344) (hle : T' ≤ T) (hh : h ≤ 2) (hh' : 0 ≤ h') (hw : 0 ≤ w) (hw' : w' ≤ 1)
    (hq : T' ≤ qq T ∨ (qq T' = qq T → 2 * (3 - h') + w' + 1 ≤ 2 * (3 - h) + w)) : potf T' h' w' + 1 ≤ potf T h w := by
  unfold potf
  rw [if_neg (show ¬ T ≤ 21 by omega)]
  rcases lev_cases T hT1 with a | a | a | a | a | a <;> rcases lev_cases T' (by omega) with b | b | b | b | b | b <;> split <;> omega
theorem pot_top {T h w : Int} (h0 : 21 < T) (h1 : T ≤ 1344) (hh : h ≤ 2) (hw : 0 ≤ w) : 1 ≤ potf T h w := by
  unfold potf
  rw [if_neg (show ¬ T ≤ 21 by omega)]
  rcases lev_cases T h1 with a | a | a | a | a | a <;> omega
structure Inv (s : MS) (least most path : Int) : Prop where
  l0 : 0 ≤ least
  mn : least ≤ s.mn
  mp : s.mn ≤ path
  pm : path ≤ most
  sp : most ≤ least + 1023
  am : s.a ≤ most
  shape : (s.b = -1 ∧ s.c = -1) ∨ (s.c = -1 ∧ s.b ≠ -1 ∧ s.a ≤ s.b ∧ s.b ≤ most) ∨ (s.b ≠ -1 ∧ s.c ≠ -1 ∧ s.a ≤ s.b ∧ s.b ≤ s.c ∧ s.c ≤ most)
  g : path < s.a ∨ s.a = most
  w : s.wl = true → path < s.a
theorem mxL_a {a b c : Int} (h : b = -1) : mxL a b c = a := by unfold mxL; rw [if_pos h]
theorem mxL_b {a b c : Int} (h : b ≠ -1) (h2 : c = -1) : mxL a b c = b := by unfold mxL; rw [if_neg h, if_pos h2]
theorem mxL_c {a b c : Int} (h : b ≠ -1) (h2 : c ≠ -1) : mxL a b c = c := by unfold mxL; rw [if_neg h, if_neg h2]
theorem Inv.top_lt {s : MS} {least most path : Int} (I : Inv s least most path) : path ≤ s.top ∧ s.top ≤ most ∧ s.a ≤ s.top := by
  obtain ⟨l0, mn, mp, pm, sp, am, sh, g, w⟩ := I
  unfold MS.top
  rcases sh with ⟨h1, h2⟩ | ⟨h1, h2, h3, h4⟩ | ⟨h1, h2, h3, h4, h5⟩
  · rw [mxL_a h1]; omega
  · rw [mxL_b h2 h1]; omega
  · rw [mxL_c h1 h2]; omega
theorem Inv.next_in {s : MS} {least most path : Int} (I : Inv s least most path) (hd : 21 < s.top - s.mn) : s.mn ≤ s.next ∧ s.next ≤ most ∧ s.next < s.top ∧ (s.next ≤ path → s.next < s.a) := by
  have ⟨t1, t2, t3⟩ := I.top_lt
  obtain ⟨l0, mn, mp, pm, sp, am, sh, g, w⟩ := I
  unfold MS.next
  cases hw : s.wl
  · simp only [Bool.false_eq_true, if_false]; omega
  · have := w hw
    simp only [if_true]; omega
/-- A probe that comes through. -/
theorem Inv.ack {s s' : MS} {least most path : Int} (I : Inv s least most path) (hd : 21 < s.top - s.mn) (hn : s.next ≤ path)
    (h1 : s'.mn = s.next) (h2 : s'.a = akA s.a s.b s.c s.next) (h3 : s'.b = akB s.a s.b s.c s.next) (h4 : s'.c = akC s.a s.b s.c s.next) (h5 : s'.wl = false) : Inv s' least most path ∧ pot s' + 1 ≤ pot s := by
  obtain ⟨n1, n2, n3, n4⟩ := I.next_in hd
  have n4 := n4 hn
  have ⟨t1, t2, t3⟩ := I.top_lt
  have e2 : s'.a = s.a := by rw [h2]; unfold akA; rw [if_pos n4]
  have e3 : s'.b = s.b := by rw [h3]; unfold akB; rw [if_pos n4]
  have e4 : s'.c = s.c := by rw [h4]; unfold akC; rw [if_pos n4]
  have et : s'.top = s.top := by unfold MS.top; rw [e2, e3, e4]
  obtain ⟨l0, mn, mp, pm, sp, am, sh, g, w⟩ := I
  refine ⟨⟨l0, by omega, by omega, pm, sp, by omega, by rw [e2, e3, e4]; exact sh, by rw [e2]; exact g, by rw [h5]; intro h; cases h⟩, ?_⟩
  unfold pot
  rw [et]
  have hq := qq_half _ hd (by omega)
  refine potf_le hd (by omega) (by omega) ?_ ?_ ?_ ?_ ?_
  · unfold hh MS.top at *
    rcases low_cases s.a s.mn (qq (mxL s.a s.b s.c - s.mn)) with a | a <;> rcases low_cases s.b s.mn (qq (mxL s.a s.b s.c - s.mn)) with b | b <;> rcases low_cases s.c s.mn (qq (mxL s.a s.b s.c - s.mn)) with c | c <;> try omega
    rw [mxL_c b.2.1 c.2.1] at hq c
    omega
  · unfold hh
    rcases low_cases s'.a s'.mn (qq (s.top - s'.mn)) with a | a <;> rcases low_cases s'.b s'.mn (qq (s.top - s'.mn)) with b | b <;> rcases low_cases s'.c s'.mn (qq (s.top - s'.mn)) with c | c <;> omega
  · cases s.wl <;> decide
  · rw [h5]; decide
  · cases hw : s.wl
    · left
      have : s.next = (s.mn + s.top) / 2 := by unfold MS.next; rw [hw]; rfl
      omega
    · right
      intro hqe
      rw [hqe, h5]
      unfold hh
      rw [e2, e3, e4]
      have : b2i true = 1 := rfl
      have : b2i false = 0 := rfl
      generalize qq (s.top - s.mn) = q at *
      rcases low_cases s.a s.mn q with a | a <;> rcases low_cases s.b s.mn q with b | b <;> rcases low_cases s.c s.mn q with c | c <;>
      rcases low_cases s.a s'.mn q with a' | a' <;> rcases low_cases s.b s'.mn q with b' | b' <;> rcases low_cases s.c s'.mn q with c' | c' <;> omega
/-- A probe that is lost. -/
theorem Inv.loss {s s' : MS} {least most path : Int} (I : Inv s least most path) (hd : 21 < s.top - s.mn) (hn : path < s.next)
    (h1 : s'.mn = s.mn) (h2 : s'.a = loA s.a s.b s.c s.next) (h3 : s'.b = loB s.a s.b s.c s.next) (h4 : s'.c = loC s.a s.b s.c s.next) (h5 : s'.wl = true) : Inv s' least most path ∧ pot s' + 1 ≤ pot s := by
  obtain ⟨n1, n2, n3, n4⟩ := I.next_in hd
  have ⟨t1, t2, t3⟩ := I.top_lt
  have hq := qq_half _ hd (by obtain ⟨l0, mn, mp, pm, sp, am, sh, g, w⟩ := I; omega)
  have hnx : s.next - s.mn ≤ qq (s.top - s.mn) := by
    obtain ⟨l0, mn, mp, pm, sp, am, sh, g, w⟩ := I
    unfold MS.next
    split <;> omega
  obtain ⟨l0, mn, mp, pm, sp, am, sh, g, w⟩ := I
  have hb1 : b2i true = 1 := rfl
  have hw0 : 0 ≤ b2i s.wl := by cases s.wl <;> decide
  have main : Inv s' least most path ∧ s'.top ≤ s.top ∧ ∀ q, s.next - s.mn ≤ q → q < s.top - s.mn → (s'.top - s.mn ≤ q ∨ (hh s q + 1 ≤ hh s' q)) ∧ hh s q ≤ 2 := by
    unfold MS.top at *
    generalize s.next = n at *
    unfold hh
    rcases sh with ⟨k1, k2⟩ | ⟨k1, k2, k3, k4⟩ | ⟨k1, k2, k3, k4, k5⟩
    · rw [mxL_a k1] at *
      have na : n < s.a := by omega
      have e2 : s'.a = n := by rw [h2]; unfold loA; rw [if_pos na]
      have e3 : s'.b = s.a := by rw [h3]; unfold loB; rw [if_pos na]
      have e4 : s'.c = s.b := by rw [h4]; unfold loC; rw [if_pos na]
      rw [e2, e3, e4, h1, mxL_b (by omega) k1]
      refine ⟨⟨l0, by omega, by omega, pm, sp, by omega, by rw [e2, e3, e4]; omega, by rw [e2]; omega, fun _ => by omega⟩, by omega, fun q q1 q2 => ?_⟩
      rcases low_cases s.a s.mn q with a | a <;> rcases low_cases s.b s.mn q with b | b <;> rcases low_cases s.c s.mn q with c | c <;> rcases low_cases n s.mn q with d | d <;> omega
    · rw [mxL_b k2 k1] at *
      by_cases na : n < s.a
      · have e2 : s'.a = n := by rw [h2]; unfold loA; rw [if_pos na]
        have e3 : s'.b = s.a := by rw [h3]; unfold loB; rw [if_pos na]
        have e4 : s'.c = s.b := by rw [h4]; unfold loC; rw [if_pos na]
        rw [e2, e3, e4, h1, mxL_c (by omega) k2]
        refine ⟨⟨l0, by omega, by omega, pm, sp, by omega, by rw [e2, e3, e4]; omega, by rw [e2]; omega, fun _ => by omega⟩, by omega, fun q q1 q2 => ?_⟩
        rcases low_cases s.a s.mn q with a | a <;> rcases low_cases s.b s.mn q with b | b <;> rcases low_cases s.c s.mn q with c | c <;> rcases low_cases n s.mn q with d | d <;> omega
      · have e2 : s'.a = s.a := by rw [h2]; unfold loA; rw [if_neg na]
        have e3 : s'.b = n := by rw [h3]; unfold loB; rw [if_neg na, if_pos (by omega)]
        have e4 : s'.c = s.b := by rw [h4]; unfold loC; rw [if_neg na, if_pos (by omega)]
        have pa : path < s.a := by omega
        rw [e2, e3, e4, h1, mxL_c (by omega) k2]
        refine ⟨⟨l0, by omega, by omega, pm, sp, by omega, by rw [e2, e3, e4]; omega, by rw [e2]; omega, fun _ => by omega⟩, by omega, fun q q1 q2 => ?_⟩
        rcases low_cases s.a s.mn q with a | a <;> rcases low_cases s.b s.mn q with b | b <;> rcases low_cases s.c s.mn q with c | c <;> rcases low_cases n s.mn q with d | d <;> omega
    · rw [mxL_c k1 k2] at *
      by_cases na : n < s.a
      · have e2 : s'.a = n := by rw [h2]; unfold loA; rw [if_pos na]
        have e3 : s'.b = s.a := by rw [h3]; unfold loB; rw [if_pos na]
        have e4 : s'.c = s.b := by rw [h4]; unfold loC; rw [if_pos na]
        rw [e2, e3, e4, h1, mxL_c (by omega) k1]
        refine ⟨⟨l0, by omega, by omega, pm, sp, by omega, by rw [e2, e3, e4]; omega, by rw [e2]; omega, fun _ => by omega⟩, by omega, fun q q1 q2 => ?_⟩
        rcases low_cases s.a s.mn q with a | a <;> rcases low_cases s.b s.mn q with b | b <;> rcases low_cases s.c s.mn q with c | c <;> rcases low_cases n s.mn q with d | d <;> omega
      · have pa : path < s.a := by omega
        by_cases nb : n < s.b
        · have e2 : s'.a = s.a := by rw [h2]; unfold loA; rw [if_neg na]
          have e3 : s'.b = n := by rw [h3]; unfold loB; rw [if_neg na, if_pos nb]
          have e4 : s'.c = s.b := by rw [h4]; unfold loC; rw [if_neg na, if_pos nb]
          rw [e2, e3, e4, h1, mxL_c (by omega) k1]
          refine ⟨⟨l0, by omega, by omega, pm, sp, by omega, by rw [e2, e3, e4]; omega, by rw [e2]; omega, fun _ => by omega⟩, by omega, fun q q1 q2 => ?_⟩
          rcases low_cases s.a s.mn q with a | a <;> rcases low_cases s.b s.mn q with b | b <;> rcases low_cases s.c s.mn q with c | c <;> rcases low_cases n s.mn q with d | d <;> omega
        · have e2 : s'.a = s.a := by rw [h2]; unfold loA; rw [if_neg na]
          have e3 : s'.b = s.b := by rw [h3]; unfold loB; rw [if_neg na, if_neg nb]
          have e4 : s'.c = n := by rw [h4]; unfold loC; rw [if_neg na, if_neg nb, if_pos n3]
          rw [e2, e3, e4, h1, mxL_c k1 (by omega)]
          refine ⟨⟨l0, by omega, by omega, pm, sp, by omega, by rw [e2, e3, e4]; omega, by rw [e2]; omega, fun _ => by omega⟩, by omega, fun q q1 q2 => ?_⟩
          rcases low_cases s.a s.mn q with a | a <;> rcases low_cases s.b s.mn q with b | b <;> rcases low_cases s.c s.mn q with c | c <;> rcases low_cases n s.mn q with d | d <;> omega
  obtain ⟨m1, m2, m3⟩ := main
  obtain ⟨m3, m4⟩ := m3 _ hnx hq.1
  refine ⟨m1, ?_⟩
  unfold pot
  rw [h1, h5]
  refine potf_le hd (by omega) (by omega) m4 ?_ hw0 (by decide) ?_
  · unfold hh
    generalize qq (s'.top - s.mn) = q
    rcases low_cases s'.a s'.mn q with a | a <;> rcases low_cases s'.b s'.mn q with b | b <;> rcases low_cases s'.c s'.mn q with c | c <;> omega
  · rcases m3 with h | h
    · exact .inl h
    · right
      intro hqe
      rw [hqe]
      omega
theorem pot_pos {s : MS} (h : ¬ s.top - s.mn ≤ 21) : True := trivial
theorem pot_nonneg {s : MS} {least most path : Int} (I : Inv s least most path) : 0 ≤ pot s := by
  have ⟨t1, t2, t3⟩ := I.top_lt
  obtain ⟨l0, mn, mp, pm, sp, am, sh, g, w⟩ := I
  have hw0 : 0 ≤ b2i s.wl := by cases s.wl <;> decide
  unfold pot potf hh
  split
  · omega
  · rcases lev_cases (s.top - s.mn) (by omega) with h | h | h | h | h | h <;>
    (generalize qq (s.top - s.mn) = q at *
     rcases low_cases s.a s.mn q with a | a <;> rcases low_cases s.b s.mn q with b | b <;> rcases low_cases s.c s.mn q with c | c <;> omega)
theorem pot_start {least most : Int} (h0 : 0 ≤ least) (h1 : least ≤ most) (h2 : most ≤ least + 1023) : pot (ms0 least most) ≤ 36 := by
  have e : pot (ms0 least most) = potf (most - least) (low most least (qq (most - least)) + low (-1) least (qq (most - least)) + low (-1) least (qq (most - least))) 0 := rfl
  rw [e]
  unfold potf
  split
  · decide
  · rcases lev_cases (most - least) (by omega) with h | h | h | h | h | h <;>
    (generalize qq (most - least) = q at *
     rcases low_cases most least q with a | a <;> rcases low_cases (-1) least q with b | b <;> omega)
end Go.Proofs.Ytnffahllpagicaa
