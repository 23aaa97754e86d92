/- What is received, step by step, in plain numbers: the state, what a step says, what holds of them. -/
import Derived.Test.YtgianhjmjiiadaaQmN
set_option autoImplicit true
set_option relaxedAutoImplicit true
set_option linter.unusedVariables false
set_option linter.unusedSimpArgs false
namespace Go.Proofs.Ytgianhjmjiiadaa
open Go Go.Sy
structure St where
  c0 : Int
  c1 : Int
  ce : Int
  db : Int
  lt : Int
  lo : Int
  ig : Int
  ct : Int
  al : Int
  lw : Int
  nw : Bool
  qd : Bool
  k : Bool
  n : Nat
  m : Nat
  A : Nat → Int
  B : Nat → Int
def s0 : St := ⟨0, 0, 0, -1, 0, 0, 0, 0, 0, -1, false, false, false, 0, 0, fun _ => 0, fun _ => 0⟩
noncomputable def memD (A : Nat → Int) (n : Nat) (p : Int) : Bool := open Classical in decide (Mem A n p)
noncomputable def isOld (s : St) (p : Int) : Bool := decide (p < s.db) || memD s.A s.n p
def ecnI (e : Int) : Int := if e = 1 then 2 else if e = 2 then 3 else if e = 3 then 4 else 1
def nmD (s : St) (p : Int) : Bool := decide (1 ≤ grt s.lo p) && decide (hm (addA s.A s.n p) (addN s.A s.n p) (grt s.lo p - 1) s.db ≠ -1 ∧ s.B 1 ≤ hm (addA s.A s.n p) (addN s.A s.n p) (grt s.lo p - 1) s.db ∧ s.B 1 - 1 < hm (addA s.A s.n p) (addN s.A s.n p) (grt s.lo p - 1) s.db)
def msD (s : St) (p : Int) : Bool := decide (s.ig ≤ p ∧ p < s.B 1) && !acks s.B s.m p
def sqD (s : St) (p e : Int) (el : Bool) : Bool := s.qd || (el && ((s.k && msD s p) || (decide (2 ≤ s.ct + 1) || ((s.k && nmD s p) || decide (ecnI e = 4)))))
def rcv (s : St) (p e t : Int) (el : Bool) : St :=
  { s with
    c0 := if ecnI e = 3 then s.c0 + 1 else s.c0
    c1 := if ecnI e = 2 then s.c1 + 1 else s.c1
    ce := if ecnI e = 4 then s.ce + 1 else s.ce
    nw := s.nw || el
    lt := if s.lo ≤ p then t else s.lt
    lo := grt s.lo p
    qd := sqD s p e el
    ct := if el then s.ct + 1 else s.ct
    al := if el then (if sqD s p e el then (if s.qd then s.al else 0) else t + 25000000) else s.al
    lw := if s.lw = -1 ∨ p < s.lw then p else s.lw
    n := addN s.A s.n p
    A := addA s.A s.n p }
def asks (s : St) (t : Int) (on : Bool) : Bool := s.nw && !(on && (!s.qd && (decide (s.al = 0) || decide (t < s.al))))
def fram (s : St) : St := { s with k := true, m := s.n, B := rvA s.A s.n, nw := false, qd := false, al := 0, ct := 0 }
def cutS (s : St) (p : Int) : St := if p ≤ s.ig then s else { s with ig := p, db := p, n := s.n - dkR s.A p s.n, A := cutA s.A s.n p }
noncomputable def stp (s : St) (kd e p t : Int) (el on : Bool) : St :=
  if kd = 0 then (if isOld s p then s else rcv s p e t el) else if kd = 1 then (if asks s t on then fram s else s) else if kd = 2 then cutS s p else s
def kdA (S : Nat → Int) (i : Nat) : Int := S (i * 6)
def ecA (S : Nat → Int) (i : Nat) : Int := S (i * 6 + 1)
def pnA (S : Nat → Int) (i : Nat) : Int := S (i * 6 + 2)
def tmA (S : Nat → Int) (i : Nat) : Int := S (i * 6 + 3)
def elA (S : Nat → Int) (i : Nat) : Bool := !(S (i * 6 + 4) == 0)
def onA (S : Nat → Int) (i : Nat) : Bool := !(S (i * 6 + 5) == 0)
noncomputable def sAt (S : Nat → Int) : Nat → St
  | 0 => s0
  | i + 1 => stp (sAt S i) (kdA S i) (ecA S i) (pnA S i) (tmA S i) (elA S i) (onA S i)
noncomputable def frA (S : Nat → Int) (i : Nat) : Bool := decide (kdA S i = 1) && asks (sAt S i) (tmA S i) (onA S i)
noncomputable def isC (S : Nat → Int) (i : Nat) : Bool := frA S i || (decide (kdA S i = 3) && isOld (sAt S i) (pnA S i))
noncomputable def wrC (S : Nat → Int) (i : Nat) : Bool := decide (kdA S i = 0) && isOld (sAt S i) (pnA S i)
noncomputable def dlC (S : Nat → Int) (i : Nat) : Int := if frA S i then imx 0 (tmA S i - (sAt S i).lt) else 0
noncomputable def atC (S : Nat → Int) (i : Nat) : Int := if kdA S i = 4 then (sAt S i).al else 0
noncomputable def cnC (S : Nat → Int) (i : Nat) (x : Int) : Int := if frA S i then x else 0
noncomputable def cellA (S : Nat → Int) (i c : Nat) : Int :=
  if c = 0 then b2i (isC S i) else if c = 1 then b2i (wrC S i) else if c = 3 then dlC S i else if c = 4 then atC S i else if c = 5 then cnC S i (sAt S i).c0 else if c = 6 then cnC S i (sAt S i).c1 else if c = 7 then cnC S i (sAt S i).ce else 0
noncomputable def colA (S : Nat → Int) (t : Nat) : Int := cellA S (t / 8) (t % 8)
noncomputable def colL (S : Nat → Int) (i : Nat) : Int := if frA S i then ((sAt S i).n : Int) else 0
noncomputable def colC (S : Nat → Int) (t : Nat) : Int := rvA (sAt S (t / 128)).A (sAt S (t / 128)).n (t % 128)
def topA (S : Nat → Int) : Nat → Int
  | 0 => -1
  | i + 1 => if kdA S i = 0 then max (topA S i) (pnA S i) else topA S i
structure SOk (S : Nat → Int) (n : Nat) : Prop where
  kd : ∀ i, i < n → 0 ≤ kdA S i ∧ kdA S i ≤ 4
  ec : ∀ i, i < n → 0 ≤ ecA S i ∧ ecA S i ≤ 3
  pn : ∀ i, i < n → 0 ≤ pnA S i ∧ pnA S i ≤ 400
  lo : ∃ z, (∀ i, i < n → i < z → pnA S i ≤ 99) ∧ ∀ i, i < n → z < i → kdA S i ≠ 0
  tm : ∀ i, i < n → 0 ≤ tmA S i ∧ tmA S i ≤ 1000000000000000
  ig : ∀ i, i < n → kdA S i = 2 → pnA S i ≤ topA S i
structure STok (S : Nat → Int) (n : Nat) (sp : Int) : Prop where
  kd : ∀ i, i < n → 0 ≤ kdA S i ∧ kdA S i ≤ 4
  ec : ∀ i, i < n → 0 ≤ ecA S i ∧ ecA S i ≤ 3
  pn : ∀ i, i < n → 0 ≤ pnA S i ∧ pnA S i ≤ 99
  tm : ∀ i, i < n → 1000000 ≤ tmA S i ∧ tmA S i ≤ 1000000000
  mono : ∀ i j, i ≤ j → j < n → tmA S i ≤ tmA S j
  ig : ∀ i, i < n → kdA S i = 2 → pnA S i ≤ topA S i ∧ sp = 2
  k4 : ∀ i, i < n → kdA S i = 4 → sp = 2
structure Inv (s : St) (i : Nat) (top : Int) : Prop where
  rg : Rg s.A s.n
  mem : ∀ x, Mem s.A s.n x → x ≤ top
  e : top = -1 → s.n = 0 ∧ s.nw = false ∧ s.ig = 0 ∧ s.lo = 0
  t : 0 ≤ top → s.lo = top ∧ Mem s.A s.n top
  t0 : -1 ≤ top
  t1 : top ≤ 400
  n1 : s.n ≤ 51
  nw : s.nw = true → 1 ≤ s.n
  k : s.k = true → 1 ≤ s.m ∧ s.m ≤ 51 ∧ RgD s.B s.m
  db0 : -1 ≤ s.db
  db : s.db ≤ s.ig
  ig : s.ig ≤ max 0 top
  c0 : 0 ≤ s.c0 ∧ s.c0 ≤ i
  c1 : 0 ≤ s.c1 ∧ s.c1 ≤ i
  ce : 0 ≤ s.ce ∧ s.ce ≤ i
  ct : 0 ≤ s.ct ∧ s.ct ≤ i
  lt : 0 ≤ s.lt ∧ s.lt ≤ 1000000000000000
  al : 0 ≤ s.al ∧ s.al ≤ 2000000000000000
  lw : -1 ≤ s.lw ∧ s.lw ≤ 400
  ig0 : 0 ≤ s.ig
theorem rg_count {A : Nat → Int} {n : Nat} (h : Rg A n) : ∀ i, i < n → (i * 2 : Int) ≤ A (i * 2)
  | 0, hi => by have := h.lo 0 hi; omega
  | i + 1, hi => by
    have := rg_count h i (by omega)
    have := h.le i (by omega)
    have := h.gap i (i + 1) (by omega) hi
    omega
theorem rg_n {A : Nat → Int} {n : Nat} (h : Rg A n) {b : Int} (hb : ∀ x, Mem A n x → x ≤ b) (h0 : -1 ≤ b) : (n : Int) * 2 ≤ b + 2 := by
  rcases Nat.eq_zero_or_pos n with h1 | h1
  · subst h1; omega
  · have a := rg_count h (n - 1) (by omega)
    have l := h.le (n - 1) (by omega)
    have := hb (A ((n - 1) * 2)) ⟨n - 1, by omega, by omega, l⟩
    omega
theorem cut_mem {A : Nat → Int} {n : Nat} {p : Int} (hr : Rg A n) : ∀ x, Mem (cutA A n p) (n - dkR A p n) x ↔ Mem A n x ∧ p ≤ x := by
  have hle := dkR_le A p n
  have hgt := dkR_gt A p n
  intro x
  obtain ⟨d, hd⟩ : ∃ d, dkR A p n = d := ⟨_, rfl⟩
  have hlt : ∀ j, j < d → A (j * 2 + 1) < p := fun j hj => by
    rcases Nat.eq_zero_or_pos d with h0 | h0
    · omega
    · have h1 := dkR_at A p n (d - 1) (by omega)
      rcases Nat.lt_or_ge j (d - 1) with h2 | h2
      · have := hr.gap j (d - 1) h2 (by omega)
        have := hr.le (d - 1) (by omega)
        omega
      · have : j = d - 1 := by omega
        rw [this]; exact h1
  unfold cutA
  rw [hd] at hgt hle ⊢
  have ed : ∀ j, del2 A 0 d j = A (j + d * 2) := fun j => by unfold del2; rw [if_neg (by omega)]
  split
  · rename_i hc
    have e0 : ∀ i, upd (del2 A 0 d) 0 p (i * 2) = if i = 0 then p else A ((i + d) * 2) := fun i => by
      unfold upd
      by_cases c : i = 0
      · rw [if_pos (by omega), if_pos c]
      · rw [if_neg (by omega), if_neg c, ed, show i * 2 + d * 2 = (i + d) * 2 by omega]
    have e1 : ∀ i, upd (del2 A 0 d) 0 p (i * 2 + 1) = A ((i + d) * 2 + 1) := fun i => by
      unfold upd; rw [if_neg (by omega), ed, show i * 2 + 1 + d * 2 = (i + d) * 2 + 1 by omega]
    constructor
    · rintro ⟨i, hi, a, b⟩
      rw [e0] at a; rw [e1] at b
      by_cases c : i = 0
      · subst c
        rw [if_pos rfl] at a
        rw [Nat.zero_add] at b
        exact ⟨⟨d, by omega, by omega, b⟩, a⟩
      · rw [if_neg c] at a
        have := hgt (i + d) (by omega) (by omega)
        have := hr.gap d (i + d) (by omega) (by omega)
        have := hgt d (by omega) (by omega)
        exact ⟨⟨i + d, by omega, a, b⟩, by omega⟩
    · rintro ⟨⟨i, hi, a, b⟩, hp⟩
      have hid : d ≤ i := by
        rcases Nat.lt_or_ge i d with h1 | h1
        · have := hlt i h1; omega
        · exact h1
      refine ⟨i - d, by omega, ?_, ?_⟩
      · rw [e0]
        split
        · exact hp
        · rw [show i - d + d = i by omega]; exact a
      · rw [e1, show i - d + d = i by omega]; exact b
  · rename_i hc
    constructor
    · rintro ⟨i, hi, a, b⟩
      rw [ed] at a b
      rw [show i * 2 + d * 2 = (i + d) * 2 by omega] at a
      rw [show i * 2 + 1 + d * 2 = (i + d) * 2 + 1 by omega] at b
      have hp : p ≤ A (d * 2) := by
        have : d < n := by omega
        omega
      refine ⟨⟨i + d, by omega, a, b⟩, ?_⟩
      rcases Nat.eq_zero_or_pos i with h0 | h0
      · subst h0; rw [Nat.zero_add] at a; omega
      · have := hr.gap d (i + d) (by omega) (by omega)
        have := hr.le d (by omega)
        omega
    · rintro ⟨⟨i, hi, a, b⟩, hp⟩
      have hid : d ≤ i := by
        rcases Nat.lt_or_ge i d with h1 | h1
        · have := hlt i h1; omega
        · exact h1
      refine ⟨i - d, by omega, ?_, ?_⟩
      · rw [ed, show (i - d) * 2 + d * 2 = i * 2 by omega]; exact a
      · rw [ed, show (i - d) * 2 + 1 + d * 2 = i * 2 + 1 by omega]; exact b
theorem memD_iff {A : Nat → Int} {n : Nat} {p : Int} : memD A n p = true ↔ Mem A n p := by
  unfold memD; exact @decide_eq_true_iff _ (Classical.propDecidable _)
theorem old_f {s : St} {p : Int} (h : isOld s p = false) : s.db ≤ p ∧ ¬ Mem s.A s.n p := by
  unfold isOld at h
  rw [Bool.or_eq_false_iff, decide_eq_false_iff_not] at h
  refine ⟨by omega, fun hm => ?_⟩
  rw [memD_iff.2 hm] at h
  exact absurd h.2 (by decide)
theorem Inv.zero : Inv s0 0 (-1) := by
  have hM : ∀ x, ¬ Mem s0.A s0.n x := by rintro x ⟨i, hi, _⟩; exact Nat.not_lt_zero _ hi
  refine ⟨⟨fun i hi => absurd hi (Nat.not_lt_zero _), fun i j _ hj => absurd hj (Nat.not_lt_zero _), fun i hi => absurd hi (Nat.not_lt_zero _), fun i hi => absurd hi (Nat.not_lt_zero _)⟩, fun x hx => absurd hx (hM x), fun _ => ⟨rfl, rfl, rfl, rfl⟩, fun h => by omega, by omega, by omega, Nat.zero_le _, fun h => (by cases h), fun h => (by cases h), ?_, ?_, (by show (0 : Int) ≤ max 0 (-1); omega), ?_, ?_, ?_, ?_, ?_, ?_, ?_, ?_⟩ <;> simp [s0]
theorem Inv.mono {s : St} {i j : Nat} {top : Int} (h : Inv s i top) (hij : i ≤ j) : Inv s j top :=
  { h with c0 := ⟨h.c0.1, by have := h.c0.2; omega⟩, c1 := ⟨h.c1.1, by have := h.c1.2; omega⟩, ce := ⟨h.ce.1, by have := h.ce.2; omega⟩, ct := ⟨h.ct.1, by have := h.ct.2; omega⟩ }
theorem Inv.rcv {s : St} {i : Nat} {top : Int} (h : Inv s i top) {p e t : Int} {el : Bool} (hi : s.n ≤ 50) (p0 : 0 ≤ p) (p1 : p ≤ 400) (t0 : 0 ≤ t) (t1 : t ≤ 1000000000000000) (ho : isOld s p = false) : Inv (rcv s p e t el) (i + 1) (max top p) := by
  obtain ⟨h1, h2⟩ := old_f ho
  obtain ⟨a1, a2, a3, a4⟩ := add_ok (p := p) h.rg p0 (by omega)
  have hlo : grt s.lo p = max top p := by
    unfold grt
    have := h.t0
    rcases Int.lt_or_le top 0 with c | c
    · have := (h.e (by omega)).2.2.2
      rw [if_pos (by omega)]; omega
    · have := (h.t c).1
      split <;> omega
  have hmem : ∀ x, Mem (addA s.A s.n p) (addN s.A s.n p) x → x ≤ max top p := fun x hx => by
    rcases (a2 x).1 hx with h3 | h3
    · have := h.mem x h3; omega
    · omega
  have hnp := addN_pos (p := p) h.rg
  have ht1 := h.t1
  have ht0 := h.t0
  have hn := rg_n a1 hmem (by omega)
  have hig := h.ig
  have hc0 := h.c0; have hc1 := h.c1; have hce := h.ce; have hct := h.ct; have hlt := h.lt; have hal := h.al; have hlw := h.lw
  refine ⟨a1, hmem, fun hh => by omega, fun _ => ⟨hlo, (a2 _).2 ?_⟩, by omega, by omega, ?_, fun _ => hnp, h.k, h.db0, h.db, ?_, ?_, ?_, ?_, ?_, ?_, ?_, ?_, h.ig0⟩
  · rcases Int.lt_or_le top p with c | c
    · exact .inr (by omega)
    · rw [show max top p = top by omega]; exact .inl (h.t (by omega)).2
  · show addN s.A s.n p ≤ 51
    omega
  · show s.ig ≤ _; omega
  · show 0 ≤ (if ecnI e = 3 then s.c0 + 1 else s.c0) ∧ (if ecnI e = 3 then s.c0 + 1 else s.c0) ≤ ((i + 1 : Nat) : Int)
    split <;> omega
  · show 0 ≤ (if ecnI e = 2 then s.c1 + 1 else s.c1) ∧ (if ecnI e = 2 then s.c1 + 1 else s.c1) ≤ ((i + 1 : Nat) : Int)
    split <;> omega
  · show 0 ≤ (if ecnI e = 4 then s.ce + 1 else s.ce) ∧ (if ecnI e = 4 then s.ce + 1 else s.ce) ≤ ((i + 1 : Nat) : Int)
    split <;> omega
  · show 0 ≤ (if el = true then s.ct + 1 else s.ct) ∧ (if el = true then s.ct + 1 else s.ct) ≤ ((i + 1 : Nat) : Int)
    split <;> omega
  · show 0 ≤ (if s.lo ≤ p then t else s.lt) ∧ (if s.lo ≤ p then t else s.lt) ≤ _
    split <;> omega
  · show 0 ≤ (if el = true then (if sqD s p e el = true then (if s.qd = true then s.al else 0) else t + 25000000) else s.al) ∧ (if el = true then (if sqD s p e el = true then (if s.qd = true then s.al else 0) else t + 25000000) else s.al) ≤ _
    split
    · split
      · split <;> omega
      · omega
    · omega
  · show -1 ≤ (if s.lw = -1 ∨ p < s.lw then p else s.lw) ∧ (if s.lw = -1 ∨ p < s.lw then p else s.lw) ≤ 400
    split <;> omega
theorem Inv.fram {s : St} {i : Nat} {top : Int} (h : Inv s i top) (hn : s.nw = true) : Inv (fram s) i top := by
  have hp := h.nw hn
  exact { rg := h.rg, mem := h.mem, e := fun hh => ⟨(h.e hh).1, rfl, (h.e hh).2.2⟩, t := h.t, t0 := h.t0, t1 := h.t1, n1 := h.n1, nw := fun hh => (by cases hh), k := fun _ => ⟨hp, h.n1, rgd_of h.rg⟩, db0 := h.db0, db := h.db, ig := h.ig, c0 := h.c0, c1 := h.c1, ce := h.ce, ct := ⟨Int.le_refl 0, by show (0 : Int) ≤ i; omega⟩, lt := h.lt, al := ⟨Int.le_refl 0, by show (0 : Int) ≤ 2000000000000000; omega⟩, lw := h.lw, ig0 := h.ig0 }
theorem Inv.cut {s : St} {i : Nat} {top : Int} (h : Inv s i top) {p : Int} (p0 : 0 ≤ p) (p1 : p ≤ top) : Inv (cutS s p) i top := by
  unfold cutS
  split
  · exact h
  · rename_i hc
    have ht1 := h.t1
    have hm := cut_mem (p := p) h.rg
    have hlt := h.t (by omega)
    have hcm : Mem (cutA s.A s.n p) (s.n - dkR s.A p s.n) top := (hm _).2 ⟨hlt.2, p1⟩
    have hn1 : 1 ≤ s.n - dkR s.A p s.n := by obtain ⟨j, hj, _⟩ := hcm; omega
    exact { h with
      rg := cut_ok h.rg p0 (by omega)
      mem := fun x hx => h.mem x ((hm x).1 hx).1
      e := fun hh => by omega
      t := fun _ => ⟨hlt.1, hcm⟩
      n1 := by have := h.n1; show s.n - _ ≤ 51; omega
      nw := fun _ => hn1
      db0 := by show -1 ≤ p; omega
      db := Int.le_refl _
      ig := by show p ≤ _; omega
      ig0 := p0 }
theorem rcv_n {s : St} {i : Nat} {top : Int} (h : Inv s i top) {p e t : Int} {el : Bool} (p0 : 0 ≤ p) (p1 : p ≤ 99) (ht : top ≤ 99) : (rcv s p e t el).n ≤ 50 := by
  obtain ⟨a1, a2, a3, a4⟩ := add_ok (p := p) h.rg p0 (by omega)
  have := rg_n a1 (b := 99) (fun x hx => by
    rcases (a2 x).1 hx with h3 | h3
    · have := h.mem x h3; omega
    · omega) (by omega)
  show addN s.A s.n p ≤ 50
  omega
theorem inv_z {S : Nat → Int} {n z : Nat} (h : SOk S n) (hz : ∀ i, i < n → i < z → pnA S i ≤ 99) (hz2 : ∀ i, i < n → z < i → kdA S i ≠ 0) : ∀ i, i ≤ n → Inv (sAt S i) i (topA S i) ∧ (i ≤ z → topA S i ≤ 99 ∧ (sAt S i).n ≤ 50)
  | 0, _ => ⟨Inv.zero, fun _ => ⟨by show (-1 : Int) ≤ 99; omega, Nat.zero_le _⟩⟩
  | i + 1, hi => by
    obtain ⟨ih, ihz⟩ := inv_z h hz hz2 i (by omega)
    have hp := h.pn i (by omega)
    have ht := h.tm i (by omega)
    have hk := h.kd i (by omega)
    simp only [sAt, stp, topA]
    split
    · rename_i hk0
      have hiz : i ≤ z := by
        rcases Nat.lt_or_ge z i with c | c
        · exact absurd hk0 (hz2 i (by omega) c)
        · exact c
      obtain ⟨z1, z2⟩ := ihz hiz
      split
      · rename_i hO
        -- an old one: it is not greater than all
        have hle : pnA S i ≤ max 0 (topA S i) ∧ (topA S i = -1 → False) := by
          unfold isOld at hO
          rw [Bool.or_eq_true, decide_eq_true_eq, memD_iff] at hO
          have := ih.db; have := ih.ig; have h3 := ih.t0
          refine ⟨?_, fun h4 => ?_⟩
          · rcases hO with c | c
            · omega
            · have := ih.mem _ c; omega
          · obtain ⟨e1, e2, e3, e4⟩ := ih.e h4
            rcases hO with c | c
            · omega
            · obtain ⟨j, hj, _⟩ := c; omega
        have := ih.t0
        have hne : ¬ topA S i = -1 := hle.2
        have hl1 := hle.1
        have hm : max (topA S i) (pnA S i) = topA S i := by omega
        rw [hm]; exact ⟨ih.mono (by omega), fun _ => ⟨z1, z2⟩⟩
      · rename_i hO
        refine ⟨ih.rcv z2 hp.1 hp.2 ht.1 ht.2 (by simpa using hO), fun c => ?_⟩
        have hpz := hz i (by omega) (by omega)
        exact ⟨by omega, rcv_n ih hp.1 hpz z1⟩
    · split
      · split
        · rename_i hA
          have : (sAt S i).nw = true := by
            unfold asks at hA; rw [Bool.and_eq_true] at hA; exact hA.1
          exact ⟨(ih.fram this).mono (by omega), fun c => ihz (by omega)⟩
        · exact ⟨ih.mono (by omega), fun c => ihz (by omega)⟩
      · split
        · rename_i h2
          refine ⟨(ih.cut hp.1 (h.ig i (by omega) h2)).mono (by omega), fun c => ⟨(ihz (by omega)).1, ?_⟩⟩
          have := (ihz (by omega)).2
          unfold cutS
          split
          · exact this
          · show (sAt S i).n - _ ≤ 50
            omega
        · exact ⟨ih.mono (by omega), fun c => ihz (by omega)⟩
theorem inv_at {S : Nat → Int} {n : Nat} (h : SOk S n) (hn : n ≤ 63) (i : Nat) (hi : i ≤ n) : Inv (sAt S i) i (topA S i) := by
  obtain ⟨z, h1, h2⟩ := h.lo
  exact (inv_z h h1 h2 i hi).1
end Go.Proofs.Ytgianhjmjiiadaa
