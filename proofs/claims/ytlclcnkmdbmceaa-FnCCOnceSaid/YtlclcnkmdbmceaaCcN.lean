/- Congestion controllers behind a row of steps, in plain numbers. -/
import Derived.Test.YtlclcnkmdbmceaaSyQ
set_option linter.unusedVariables false
set_option linter.unusedSimpArgs false
namespace Go.Proofs.Ytlclcnkmdbmceaa
open Go Go.Sy

theorem tdn {a b : Int} (h : 0 ≤ a) : a.tdiv b = a / b := Int.tdiv_eq_ediv_of_nonneg h
theorem tmn {a b : Int} (h : 0 ≤ a) : a.tmod b = a % b := Int.tmod_eq_emod_of_nonneg h
/-- The pacing rate of a window. -/
def pRate (cw sst : Int) : Int := if cw < sst then 2 * (cw * 1000000000 / 100000000 * 8) else cw * 1000000000 / 100000000 * 8 * 5 / 4
/-- How much may be sent in a time. -/
def pScale (d rate : Int) : Int := rate / 8 * d / 1000000000
def pBurst (rate : Int) : Int := imx (pScale 2000000 rate) 12800
def pAdd (now rate last : Int) : Int := if 0 < now - last then pScale (now - last) rate else 0
def pBudget (now rate bud last : Int) : Int := if last = 0 then pBurst rate else imn (pBurst rate) (bud + pAdd now rate last)
def pSent (now size rate bud last : Int) : Int := if pBudget now rate bud last ≤ size then 0 else pBudget now rate bud last - size
def pWait (rate bud : Int) : Int := if 0 < (1000000000 * (1280 - bud)) % (rate / 8) then 1000000000 * (1280 - bud) / (rate / 8) + 1 else 1000000000 * (1280 - bud) / (rate / 8)
def pUntil (rate bud last : Int) : Int := if last = 0 ∨ 1280 ≤ bud then 0 else last + imx 1000000 (pWait rate bud)
/-- The window behind an acknowledgement in slow start. -/
def ackCw (cw f sz : Int) : Int := if cw ≤ f ∨ cw / 2 < f ∨ cw - f ≤ 3 * sz then cw + sz else cw
theorem pProd_ok {d rate : Int} (hd : 0 ≤ d ∧ d ≤ 10000000000) (hr : 100000 ≤ rate ∧ rate ≤ 100000000) : 0 ≤ rate / 8 * d ∧ rate / 8 * d ≤ 125000000000000000 := by
  have h0 : 0 ≤ rate / 8 := by omega
  have h1 : rate / 8 ≤ 12500000 := by omega
  have a := Int.mul_nonneg h0 hd.1
  have b : rate / 8 * d ≤ 12500000 * 10000000000 := Int.mul_le_mul h1 hd.2 hd.1 (by decide)
  omega
theorem pScale_ok {d rate : Int} (hd : 0 ≤ d ∧ d ≤ 10000000000) (hr : 100000 ≤ rate ∧ rate ≤ 100000000) : 0 ≤ pScale d rate ∧ pScale d rate ≤ 125000000 := by
  have := pProd_ok hd hr
  unfold pScale
  generalize rate / 8 * d = q at *
  omega
theorem imx_or (a b : Int) : (imx a b = a ∧ b ≤ a) ∨ (imx a b = b ∧ a ≤ b) := by unfold imx; split <;> omega
theorem imn_or (a b : Int) : (imn a b = a ∧ a ≤ b) ∨ (imn a b = b ∧ b ≤ a) := by unfold imn; split <;> omega
theorem pBurst_ok {rate : Int} (hr : 100000 ≤ rate ∧ rate ≤ 100000000) : 12800 ≤ pBurst rate ∧ pBurst rate ≤ 25000 := by
  unfold pBurst pScale
  have := imx_or (rate / 8 * 2000000 / 1000000000) 12800
  omega
theorem pAdd_ok {now rate last : Int} (hn : 0 ≤ now ∧ now ≤ 10000000000) (hl : 0 ≤ last) (hr : 100000 ≤ rate ∧ rate ≤ 100000000) : 0 ≤ pAdd now rate last ∧ pAdd now rate last ≤ 125000000 := by
  unfold pAdd
  split
  · exact pScale_ok (by omega) hr
  · omega
theorem pBudget_ok {now rate bud last : Int} (hn : 0 ≤ now ∧ now ≤ 10000000000) (hl : 0 ≤ last) (hb : 0 ≤ bud) (hr : 100000 ≤ rate ∧ rate ≤ 100000000) : 0 ≤ pBudget now rate bud last ∧ pBudget now rate bud last ≤ 25000 := by
  have h1 := pBurst_ok hr
  have h2 := pAdd_ok hn hl hr
  unfold pBudget
  split
  · omega
  · have := imn_or (pBurst rate) (bud + pAdd now rate last); omega
theorem pSent_ok {now size rate bud last : Int} (hn : 0 ≤ now ∧ now ≤ 10000000000) (hs : 0 ≤ size) (hl : 0 ≤ last) (hb : 0 ≤ bud) (hr : 100000 ≤ rate ∧ rate ≤ 100000000) : 0 ≤ pSent now size rate bud last ∧ pSent now size rate bud last ≤ 25000 := by
  have h1 := pBudget_ok hn hl hb hr
  unfold pSent
  split <;> omega
theorem pRate_ok {cw sst : Int} (h : 2400 ≤ cw ∧ cw ≤ 200000) : 100000 ≤ pRate cw sst ∧ pRate cw sst ≤ 100000000 := by
  unfold pRate; split <;> omega
theorem ackCw_ok {cw f sz : Int} (h : 2400 ≤ cw ∧ cw ≤ 190000) (hs : 1200 ≤ sz ∧ sz ≤ 1455) : 2400 ≤ ackCw cw f sz ∧ ackCw cw f sz ≤ 200000 := by
  unfold ackCw; split <;> omega
structure CS where
  la : Int
  ls : Int
  lc : Int
  cw : Int
  sst : Int
  bud : Int
  last : Int
theorem CS.ext {s t : CS} (h1 : s.la = t.la) (h2 : s.ls = t.ls) (h3 : s.lc = t.lc) (h4 : s.cw = t.cw) (h5 : s.sst = t.sst) (h6 : s.bud = t.bud) (h7 : s.last = t.last) : s = t := by
  cases s; cases t; simp_all
def cs0 (sz : Int) : CS := ⟨-1, -1, -1, 32 * sz, 4611686018427387903, 0, 0⟩
/-- A step: its kind, number, size, what is in flight, the time. -/
def cStep (W : Int → Int) (sz : Int) (s : CS) (k n b f t : Int) : CS :=
  if k = 0 then { s with ls := n, bud := pSent t b (pRate s.cw s.sst) s.bud s.last, last := t }
  else if k = 1 then { s with la := imx n s.la, cw := ackCw s.cw f sz }
  else if k = 6 then { s with lc := -1, sst := s.cw / 2, cw := sz * 2 }
  else if k = 2 then (if n ≤ s.lc then s else { s with cw := W s.cw, sst := W s.cw, lc := s.ls })
  else s
def okStep (s : CS) (k n b f t e : Int) : Prop :=
  ((0 ≤ n ∧ n ≤ 1000) ∧ (0 ≤ b ∧ b ≤ 2000) ∧ (0 ≤ f ∧ f ≤ 1000000) ∧ 0 ≤ t ∧ t ≤ 10000000000) ∧ ((k = 0 ∧ e ≠ 0) ∨ (k = 1 ∧ s.cw ≤ 190000 ∧ s.lc = -1 ∧ s.sst = 4611686018427387903) ∨ (k = 6 ∧ e ≠ 0) ∨ k = 2)
def cAt (W : Int → Int) (sz : Int) (st : Nat → Int) : Nat → CS
  | 0 => cs0 sz
  | i + 1 => cStep W sz (cAt W sz st i) (st (6 * i)) (st (6 * i + 1)) (st (6 * i + 2)) (st (6 * i + 3)) (st (6 * i + 4))
def scrOk (W : Int → Int) (sz : Int) (st : Nat → Int) (n : Nat) : Prop := ∀ i, i < n → okStep (cAt W sz st i) (st (6 * i)) (st (6 * i + 1)) (st (6 * i + 2)) (st (6 * i + 3)) (st (6 * i + 4)) (st (6 * i + 5))
/-- What is told behind a step. -/
def cOut (sz : Int) (s : CS) (f t : Int) : Nat → Int
  | 0 => s.cw
  | 1 => b2i (decide (s.cw < s.sst))
  | 2 => b2i (decide (s.la ≠ -1 ∧ s.la ≤ s.lc))
  | 3 => b2i (decide (f < s.cw))
  | 4 => b2i (decide (sz ≤ pBudget t (pRate s.cw s.sst) s.bud s.last))
  | _ => pUntil (pRate s.cw s.sst) s.bud s.last
def outA (W : Int → Int) (sz : Int) (st : Nat → Int) (j : Nat) : Int := cOut sz (cAt W sz st (j / 6 + 1)) (st (6 * (j / 6) + 3)) (st (6 * (j / 6) + 4)) (j % 6)
def CS.ok (s : CS) : Prop := (-1 ≤ s.ls ∧ s.ls ≤ 1000) ∧ (-1 ≤ s.la ∧ s.la ≤ 1000) ∧ (-1 ≤ s.lc ∧ s.lc ≤ 1000) ∧ (2400 ≤ s.cw ∧ s.cw ≤ 200000) ∧ (0 ≤ s.sst ∧ s.sst ≤ 4611686018427387903) ∧ (0 ≤ s.bud ∧ s.bud ≤ 25000) ∧ 0 ≤ s.last ∧ s.last ≤ 10000000000
theorem cStep_ok {W : Int → Int} (hW : ∀ c, 2400 ≤ c ∧ c ≤ 200000 → 2400 ≤ W c ∧ W c ≤ 200000) {sz : Int} {s : CS} {k n b f t e : Int} (hz : 1200 ≤ sz ∧ sz ≤ 1455) (h : s.ok) (o : okStep s k n b f t e) : (cStep W sz s k n b f t).ok := by
  obtain ⟨h0, h1, h2, h3, h4, h5, h6⟩ := h
  obtain ⟨⟨n0, b0, f0, t0⟩, hk⟩ := o
  have hr := pRate_ok (sst := s.sst) h3
  unfold cStep
  by_cases k0 : k = 0
  · rw [if_pos k0]
    exact ⟨by show -1 ≤ n ∧ n ≤ 1000; omega, h1, h2, h3, h4, pSent_ok t0 b0.1 h6.1 h5.1 hr, t0⟩
  rw [if_neg k0]
  by_cases k1 : k = 1
  · rw [if_pos k1]
    have := imx_or n s.la
    refine ⟨h0, by show -1 ≤ imx n s.la ∧ imx n s.la ≤ 1000; omega, h2, ackCw_ok (by omega) hz, h4, h5, h6⟩
  rw [if_neg k1]
  by_cases k6 : k = 6
  · rw [if_pos k6]
    refine ⟨h0, h1, by show (-1 : Int) ≤ -1 ∧ (-1 : Int) ≤ 1000; omega, by show 2400 ≤ sz * 2 ∧ sz * 2 ≤ 200000; omega, by show 0 ≤ s.cw / 2 ∧ s.cw / 2 ≤ 4611686018427387903; omega, h5, h6⟩
  rw [if_neg k6]
  by_cases k2 : k = 2
  · rw [if_pos k2]
    split
    · exact ⟨h0, h1, h2, h3, h4, h5, h6⟩
    · have := hW _ h3
      exact ⟨h0, h1, h0, this, by show 0 ≤ W s.cw ∧ W s.cw ≤ 4611686018427387903; omega, h5, h6⟩
  rw [if_neg k2]
  exact ⟨h0, h1, h2, h3, h4, h5, h6⟩
theorem cAt_ok {W : Int → Int} (hW : ∀ c, 2400 ≤ c ∧ c ≤ 200000 → 2400 ≤ W c ∧ W c ≤ 200000) {sz : Int} {st : Nat → Int} {n : Nat} (hz : 1200 ≤ sz ∧ sz ≤ 1455) (h : scrOk W sz st n) : ∀ i, i ≤ n → (cAt W sz st i).ok
  | 0, _ => by
    refine ⟨?_, ?_, ?_, ?_, ?_, ?_, ?_⟩
    · show (-1 : Int) ≤ -1 ∧ (-1 : Int) ≤ 1000; omega
    · show (-1 : Int) ≤ -1 ∧ (-1 : Int) ≤ 1000; omega
    · show (-1 : Int) ≤ -1 ∧ (-1 : Int) ≤ 1000; omega
    · show 2400 ≤ 32 * sz ∧ 32 * sz ≤ 200000; omega
    · show (0 : Int) ≤ 4611686018427387903 ∧ (4611686018427387903 : Int) ≤ 4611686018427387903; omega
    · show (0 : Int) ≤ 0 ∧ (0 : Int) ≤ 25000; omega
    · show (0 : Int) ≤ 0 ∧ (0 : Int) ≤ 10000000000; omega
  | i + 1, hi => cStep_ok hW hz (cAt_ok hW hz h i (by omega)) (h i (by omega))
/-- The packets that are sent, then those that are acknowledged. -/
def sentRow (many sz r : Int) : Nat → Int
  | 0 => if r < many then 0 else 1
  | 1 => if r < many then r + 1 else r - many + 1
  | 2 => sz
  | 3 => if r < many then r * sz else (2 * many - r) * sz
  | 4 => if r < many then (r + 1) * 1000000 else (r + 101) * 1000000
  | _ => if r < many then 1 else 0
def sentA (many sz : Int) (j : Nat) : Int := sentRow many sz (j / 6 : Nat) (j % 6)
end Go.Proofs.Ytlclcnkmdbmceaa
