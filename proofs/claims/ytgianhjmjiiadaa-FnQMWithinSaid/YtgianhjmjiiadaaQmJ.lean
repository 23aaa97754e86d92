/- What holds at the heads of the script's loops, and how a step keeps it. -/
import Derived.Test.YtgianhjmjiiadaaQmB
import Derived.Test.YtgianhjmjiiadaaQmH
import Derived.Test.YtgianhjmjiiadaaQmS
import Derived.Test.YtgianhjmjiiadaaQmT
import Derived.Test.YtgianhjmjiiadaaQmU
set_option autoImplicit true
set_option relaxedAutoImplicit true
set_option linter.unusedVariables false
set_option linter.unusedSimpArgs false
set_option maxRecDepth 100000
namespace Go.Proofs.Ytgianhjmjiiadaa
open Go Go.Sy Go.RowKit
variable {E0 E E' : Env} {i : Nat}
theorem catch_idle (a : Value) (w : World) : CallsD Try.prog 13 #[a] .returning w fun e u w' => (∃ v, e = .returned v) ∧ u = .returning ∧ w' = w := by
  refine callsD_of_wpS Try.func13 rfl fun c₀ cs hu => ?_
  apply wpS_seq
  apply wpS_region
  simp [wpOpsS, go_sem, recoverD, hu, Try.ntmps13, Exit.thenS]
  refine wpS_cond (t := false) (by simp [Act.eval, Array.replicate]) ?_
  simp only [Bool.false_eq_true, if_false]
  refine wpS_of_wp (wp_skip ?_)
  cases c₀
  simp_all [bodyPostS, results, Try.results13]
theorem info_of {T : TypeId} {c S b : Nat} (h : (Try.prog.info? T).map (fun i => (i.zero.map (·.cells.size), i.size, i.bytes)) = some (some c, S, b)) : ∃ i z, Try.prog.info? T = some i ∧ i.zero = some z ∧ z.cells.size = c ∧ i.size = S ∧ i.bytes = b := by
  cases hq : Try.prog.info? T with
  | none => rw [hq] at h; cases h
  | some i0 =>
    rw [hq] at h
    simp only [Option.map_some, Option.some.injEq, Prod.mk.injEq] at h
    obtain ⟨h1, h2, h3⟩ := h
    cases hz : i0.zero with
    | none => rw [hz] at h1; cases h1
    | some z0 => rw [hz] at h1; exact ⟨i0, z0, rfl, hz, by simpa using h1, h2, h3⟩
theorem rokq : RecOk fns 1000 1 rq where
  p n A B L K C a v w := Iff.rfl
  ft n A B L K C a v x := Iff.rfl
  cat C b a := rfl
  good := by decide
theorem i35 : (Try.prog.info? 35).map (fun i => (i.zero.map (·.cells.size), i.size, i.bytes)) = some (some 8, 8, 72) := by kernel_rfl
theorem t29 : Try.prog.underlying 29 = some (.slice 35) := by kernel_rfl
theorem prm19_ok (E : Env) (hE : E.fn = fns) : PrmOk E (prm19 Try.prog) := prm_ok E hE (by intro c hc; cases hc) (by intro b hb; cases hb)
noncomputable def ofE (k : Bool) (E : Env) : St :=
  { c0 := E.i 131, c1 := E.i 132, ce := E.i 133, db := E.i 106, lt := E.i 134, lo := E.i 135, ig := E.i 136, ct := E.i 137, al := E.i 138, lw := E.i 139, nw := E.b 100, qd := E.b 101, k, n := (E.i 100).toNat, m := cond k (E.i 140).toNat 0, A := E.a 100, B := cond k (E.a 102) (fun _ => 0) }
def rcvB (k : Bool) (s : St) (p e t : Int) (z : Bool) (lw : Int) : St :=
  let ec : Int := if (e == 1) = true then 2 else if (e == 2) = true then 3 else if (e == 3) = true then 4 else 1
  let lo : Int := if decide (s.lo ≤ p) = true then p else s.lo
  let nm : Bool := decide (1 ≤ lo) && decide (hm (addA s.A s.n p) (addN s.A s.n p) (lo - 1) s.db ≠ -1 ∧ s.B 1 ≤ hm (addA s.A s.n p) (addN s.A s.n p) (lo - 1) s.db ∧ s.B 1 - 1 < hm (addA s.A s.n p) (addN s.A s.n p) (lo - 1) s.db)
  let sq : Bool := cond k (!(!s.qd && !(!z && !(!msD s p && (!decide (2 ≤ s.ct + 1) && (!nm && !(ec == 4))))))) (!(!s.qd && !(!z && !(!decide (2 ≤ s.ct + 1) && !(ec == 4)))))
  { s with
    c0 := if (ec == 3) = true then s.c0 + 1 else s.c0
    c1 := if (ec == 2) = true then s.c1 + 1 else s.c1
    ce := if (ec == 4) = true then s.ce + 1 else s.ce
    nw := !(!s.nw && z)
    lt := if decide (s.lo ≤ p) = true then t else s.lt
    lo
    qd := sq
    ct := if (!z) = true then s.ct + 1 else s.ct
    al := if (!z) = true then (if sq = true then (if s.qd = true then s.al else 0) else t + 25000000) else s.al
    lw
    n := addN s.A s.n p
    A := addA s.A s.n p }
theorem rcv_b {s : St} {p e t : Int} {z el : Bool} {lw : Int} (hz : el = !z) (hl : (if s.lw = -1 ∨ p < s.lw then p else s.lw) = lw) : rcv s p e t el = rcvB s.k s p e t z lw := by
  subst hz
  have h1 : ecnI e = (if (e == 1) = true then 2 else if (e == 2) = true then 3 else if (e == 3) = true then 4 else 1) := by
    unfold ecnI; simp only [beq_iff_eq]
  have h2 : grt s.lo p = if decide (s.lo ≤ p) = true then p else s.lo := by unfold grt; simp only [decide_eq_true_eq]
  have h3 : sqD s p e (!z) = cond s.k (!(!s.qd && !(!z && !(!msD s p && (!decide (2 ≤ s.ct + 1) && (!nmD s p && !(ecnI e == 4))))))) (!(!s.qd && !(!z && !(!decide (2 ≤ s.ct + 1) && !(ecnI e == 4))))) := by
    have h4 : decide (ecnI e = 4) = (ecnI e == 4) := rfl
    unfold sqD
    rw [h4]
    cases s.k <;> cases s.qd <;> cases z <;> cases msD s p <;> cases decide (2 ≤ s.ct + 1) <;> cases nmD s p <;> cases (ecnI e == 4) <;> rfl
  unfold rcv rcvB
  simp only [h3, h2, hl]
  unfold nmD
  simp only [h2]
  rw [← h1]
  congr 1
  · simp only [beq_iff_eq]
  · simp only [beq_iff_eq]
  · simp only [beq_iff_eq]
  · simp only [decide_eq_true_eq]
  · cases s.nw <;> cases z <;> rfl
structure R8 (E0 E : Env) (i : Nat) : Prop where
  ag : AgP 100 E0 E
  i110 : E.i 110 = i
  le : i ≤ (E0.i 60).toNat
  A : ∀ t, t < i * 8 → E.a 120 t = colA (E0.a 5) t
  L : ∀ t, t < i → E.a 122 t = colL (E0.a 5) t
  C : ∀ k, k < i → ∀ u, u < (colL (E0.a 5) k).toNat * 2 → E.a 124 (k * 128 + u) = colC (E0.a 5) (k * 128 + u)
theorem R8.up (h : R8 E0 E i) (H : AgE 1000 E E') : R8 E0 E' i where
  ag := h.ag.trans (by omega) H.p
  i110 := by rw [H.i 110 (by decide)]; exact h.i110
  le := h.le
  A := by rw [H.a 120 (by decide)]; exact h.A
  L := by rw [H.a 122 (by decide)]; exact h.L
  C := by rw [H.a 124 (by decide)]; exact h.C
theorem ofE_up (H : AgE 1000 E E') (k : Bool) : ofE k E' = ofE k E := by
  unfold ofE
  rw [H.i 131 (by decide), H.i 132 (by decide), H.i 133 (by decide), H.i 106 (by decide), H.i 134 (by decide), H.i 135 (by decide), H.i 136 (by decide), H.i 137 (by decide), H.i 138 (by decide), H.i 139 (by decide), H.b 100 (by decide), H.b 101 (by decide), H.i 100 (by decide), H.i 140 (by decide), H.a 100 (by decide), H.a 102 (by decide)]
theorem tlE {a m : Nat} {e : SE} {l : SL} (he : (e.den E).toNat = m) (t : Nat) : (AE.tl (.v a) e l).den E t = if t < m then E.a a t else l.nth E (t - m) := by
  simp only [AE.den, he]
theorem catE (hE : E.fn = fns) {b : SE} {R : AE} {m : Nat} (h0 : (b.den E).toNat = m) (t : Nat) : (AE.ap 1 (.a (.v 124) (.i b (.a R .nil)))).den E t = if t < m then E.a 124 t else R.den E (t - m) := by
  simp only [AE.den, SL.den, hE]
  show (if t < (b.den E).toNat then _ else _) = _
  rw [h0]
theorem R8.next (h : R8 E0 E i) (hlt : i < (E0.i 60).toNat) (hag : AgP 100 E0 E') (h110 : E'.i 110 = E.i 110 + 1) {lA lL R : Nat → Int}
    (cA : ∀ t, E'.a 120 t = if t < i * 8 then E.a 120 t else lA (t - i * 8)) (hA : ∀ c, c < 8 → lA c = cellA (E0.a 5) i c)
    (cL : ∀ t, E'.a 122 t = if t < i then E.a 122 t else lL (t - i)) (hL : lL 0 = colL (E0.a 5) i)
    (cC : ∀ t, E'.a 124 t = if t < i * 128 then E.a 124 t else R (t - i * 128)) (hR : ∀ u, u < (colL (E0.a 5) i).toNat * 2 → R u = colC (E0.a 5) (i * 128 + u)) (hb : ∀ k, k ≤ i → (colL (E0.a 5) k).toNat * 2 ≤ 128) : R8 E0 E' (i + 1) where
  ag := hag
  i110 := by rw [h110, h.i110]; omega
  le := hlt
  A t ht := by
    rw [cA]
    split
    · rename_i h1; exact h.A t h1
    · rename_i h1
      rw [hA _ (by omega)]
      unfold colA
      rw [show t / 8 = i by omega, show t % 8 = t - i * 8 by omega]
  L t ht := by
    rw [cL]
    split
    · rename_i h1; exact h.L t h1
    · rename_i h1
      have : t = i := by omega
      subst this
      rw [Nat.sub_self]; exact hL
  C k hk u hu := by
    have := hb k (by omega)
    rw [cC]
    split
    · rename_i h1; exact h.C k (by omega) u hu
    · rename_i h1
      have : k = i := by omega
      subst this
      rw [show k * 128 + u - k * 128 = u by omega]; exact hR u hu
structure Say (S : Nat → Int) (i : Nat) (f w : Bool) (d a x y z : Int) : Prop where
  f : isC S i = f
  w : wrC S i = w
  d : dlC S i = d
  a : atC S i = a
  x : cnC S i (sAt S i).c0 = x
  y : cnC S i (sAt S i).c1 = y
  z : cnC S i (sAt S i).ce = z
theorem Say.nth {S : Nat → Int} {f w : SB} {q d a x y z : SE} (h : Say S i (f.den E) (w.den E) (d.den E) (a.den E) (x.den E) (y.den E) (z.den E)) (hq : q.den E = 0) : ∀ c, c < 8 → (SL.b f (.b w (.i q (.i d (.i a (.i x (.i y (.i z .nil)))))))).nth E c = cellA S i c := by
  intro c hc
  have : c = 0 ∨ c = 1 ∨ c = 2 ∨ c = 3 ∨ c = 4 ∨ c = 5 ∨ c = 6 ∨ c = 7 := by omega
  rcases this with rfl | rfl | rfl | rfl | rfl | rfl | rfl | rfl
  · show b2i (f.den E) = b2i (isC S i); rw [h.f]
  · show b2i (w.den E) = b2i (wrC S i); rw [h.w]
  · exact hq
  · exact h.d.symm
  · exact h.a.symm
  · exact h.x.symm
  · exact h.y.symm
  · exact h.z.symm
theorem frA_f {S : Nat → Int} (h : kdA S i ≠ 1) : frA S i = false := by unfold frA; rw [decide_eq_false h]; rfl
theorem frA_n {S : Nat → Int} (h : asks (sAt S i) (tmA S i) (onA S i) = false) : frA S i = false := by unfold frA; rw [h, Bool.and_false]
theorem frA_t {S : Nat → Int} (hk : kdA S i = 1) (h : asks (sAt S i) (tmA S i) (onA S i) = true) : frA S i = true := by unfold frA; rw [h, decide_eq_true hk]; rfl
theorem colL_f {S : Nat → Int} (h : frA S i = false) : colL S i = 0 := by unfold colL; rw [h]; rfl
theorem say_old {S : Nat → Int} (hk : kdA S i = 0) (ho : isOld (sAt S i) (pnA S i) = true) : Say S i false true 0 0 0 0 0 := by
  have hf := frA_f (S := S) (i := i) (by omega)
  refine ⟨?_, ?_, ?_, ?_, ?_, ?_, ?_⟩ <;> simp [isC, wrC, dlC, atC, cnC, hf, hk, ho]
theorem say_new {S : Nat → Int} (hk : kdA S i = 0) (ho : isOld (sAt S i) (pnA S i) = false) : Say S i false false 0 0 0 0 0 := by
  have hf := frA_f (S := S) (i := i) (by omega)
  refine ⟨?_, ?_, ?_, ?_, ?_, ?_, ?_⟩ <;> simp [isC, wrC, dlC, atC, cnC, hf, hk, ho]
theorem say_non {S : Nat → Int} (hk : kdA S i = 1) (ho : asks (sAt S i) (tmA S i) (onA S i) = false) : Say S i false false 0 0 0 0 0 := by
  have hf := frA_n ho
  refine ⟨?_, ?_, ?_, ?_, ?_, ?_, ?_⟩ <;> simp [isC, wrC, dlC, atC, cnC, hf, hk]
theorem say_cut {S : Nat → Int} (hk : kdA S i = 2) : Say S i false false 0 0 0 0 0 := by
  have hf := frA_f (S := S) (i := i) (by omega)
  refine ⟨?_, ?_, ?_, ?_, ?_, ?_, ?_⟩ <;> simp [isC, wrC, dlC, atC, cnC, hf, hk]
theorem say_dup {S : Nat → Int} (hk : kdA S i = 3) : Say S i (isOld (sAt S i) (pnA S i)) false 0 0 0 0 0 := by
  have hf := frA_f (S := S) (i := i) (by omega)
  refine ⟨?_, ?_, ?_, ?_, ?_, ?_, ?_⟩ <;> simp [isC, wrC, dlC, atC, cnC, hf, hk]
theorem say_al {S : Nat → Int} (hk : kdA S i = 4) : Say S i false false 0 (sAt S i).al 0 0 0 := by
  have hf := frA_f (S := S) (i := i) (by omega)
  refine ⟨?_, ?_, ?_, ?_, ?_, ?_, ?_⟩ <;> simp [isC, wrC, dlC, atC, cnC, hf, hk]
theorem say_fr {S : Nat → Int} (hf : frA S i = true) : Say S i true false (dlC S i) 0 (sAt S i).c0 (sAt S i).c1 (sAt S i).ce := by
  have hk : kdA S i = 1 := by unfold frA at hf; rw [Bool.and_eq_true, decide_eq_true_eq] at hf; exact hf.1
  refine ⟨?_, ?_, rfl, ?_, ?_, ?_, ?_⟩ <;> simp [isC, wrC, dlC, atC, cnC, hf, hk]
theorem st_old {S : Nat → Int} (hk : kdA S i = 0) (ho : isOld (sAt S i) (pnA S i) = true) : sAt S (i + 1) = sAt S i := by simp only [sAt, stp, if_pos hk, ho, if_true]
theorem st_new {S : Nat → Int} (hk : kdA S i = 0) (ho : isOld (sAt S i) (pnA S i) = false) : sAt S (i + 1) = rcv (sAt S i) (pnA S i) (ecA S i) (tmA S i) (elA S i) := by simp only [sAt, stp, if_pos hk, ho, Bool.false_eq_true, if_false]
theorem st_non {S : Nat → Int} (hk : kdA S i = 1) (ho : asks (sAt S i) (tmA S i) (onA S i) = false) : sAt S (i + 1) = sAt S i := by
  simp only [sAt, stp, ho, Bool.false_eq_true, if_false, hk, show ¬ (1 : Int) = 0 by omega, if_true]
theorem st_fr {S : Nat → Int} (hk : kdA S i = 1) (ho : asks (sAt S i) (tmA S i) (onA S i) = true) : sAt S (i + 1) = fram (sAt S i) := by
  simp only [sAt, stp, ho, hk, show ¬ (1 : Int) = 0 by omega, if_true, if_false]
theorem st_cut {S : Nat → Int} (hk : kdA S i = 2) : sAt S (i + 1) = cutS (sAt S i) (pnA S i) := by
  simp only [sAt, stp, hk, show ¬ (2 : Int) = 0 by omega, show ¬ (2 : Int) = 1 by omega, if_true, if_false]
theorem st_else {S : Nat → Int} (h0 : kdA S i ≠ 0) (h1 : kdA S i ≠ 1) (h2 : kdA S i ≠ 2) : sAt S (i + 1) = sAt S i := by
  simp only [sAt, stp, if_neg h0, if_neg h1, if_neg h2]
def St.setA (s : St) (A : Nat → Int) : St := ⟨s.c0, s.c1, s.ce, s.db, s.lt, s.lo, s.ig, s.ct, s.al, s.lw, s.nw, s.qd, s.k, s.n, s.m, A, s.B⟩
structure S8 (E : Env) (k : Bool) (s : St) : Prop where
  e : s = (ofE k E).setA s.A
  a : s.n ≠ 0 → s.A = E.a 100
  n0 : 0 ≤ E.i 100
  m0 : k = true → 0 ≤ E.i 140
theorem S8.up {k : Bool} {s : St} (h : S8 E k s) (H : AgE 1000 E E') : S8 E' k s := ⟨by rw [ofE_up H k]; exact h.e, fun hn => by rw [H.a 100 (by decide)]; exact h.a hn, by rw [H.i 100 (by decide)]; exact h.n0, fun hk => by rw [H.i 140 (by decide)]; exact h.m0 hk⟩
theorem S8.full {k : Bool} {s : St} (h : S8 E k s) (hn : s.n ≠ 0) : s = ofE k E :=
  h.e.trans (by rw [h.a hn]; rfl)
theorem S8.of {k : Bool} {s : St} (h : s = ofE k E) (n0 : 0 ≤ E.i 100) (m0 : k = true → 0 ≤ E.i 140) : S8 E k s := ⟨by subst h; rfl, fun _ => by subst h; rfl, n0, m0⟩
theorem S8.inv {k : Bool} {s : St} {top : Int} {j : Nat} (h : S8 E k s) (hI : Inv s j top) : Inv (ofE k E) j top := by
  by_cases hn : s.n = 0
  · have hM : ∀ (A : Nat → Int) x, ¬ Mem A 0 x := by rintro A x ⟨q, hq, _⟩; exact Nat.not_lt_zero _ hq
    have h2 := h.e
    have hz : (ofE k E).n = 0 := by rw [← hn]; exact (congrArg St.n h2).symm
    have g : ∀ {α : Type} (f : St → α), (∀ (s : St) (B : Nat → Int), f (s.setA B) = f s) → f s = f (ofE k E) := fun f hf => by
      exact (congrArg f h2).trans (hf _ _)
    have e1 := g St.c0 (fun _ _ => rfl); have e2 := g St.c1 (fun _ _ => rfl); have e3 := g St.ce (fun _ _ => rfl); have e4 := g St.db (fun _ _ => rfl)
    have e5 := g St.lt (fun _ _ => rfl); have e6 := g St.lo (fun _ _ => rfl); have e7 := g St.ig (fun _ _ => rfl); have e8 := g St.ct (fun _ _ => rfl)
    have e9 := g St.al (fun _ _ => rfl); have e10 := g St.lw (fun _ _ => rfl); have e11 := g St.nw (fun _ _ => rfl); have e12 := g St.k (fun _ _ => rfl)
    have e13 := g St.m (fun _ _ => rfl); have e14 := g St.B (fun _ _ => rfl)
    obtain ⟨i1, i2, i3, i4, i5, i6, i9, i10, i11, i12, i13, i14, i15, i16, i17, i18, i19, i20, i21, i22⟩ := hI
    rw [hn] at i2 i3 i4
    refine ⟨⟨fun q hq => ?_, fun q q' _ hq => ?_, fun q hq => ?_, fun q hq => ?_⟩, fun x hx => ?_, ?_, fun ht => ?_, i5, i6, by omega, ?_, ?_, ?_, ?_, ?_, ?_, ?_, ?_, ?_, ?_, ?_, ?_, ?_⟩
    · omega
    · omega
    · omega
    · omega
    · rw [hz] at hx; exact absurd hx (hM _ _)
    · rw [hz, ← e11, ← e7, ← e6]; exact i3
    · exact absurd (i4 ht).2 (hM _ _)
    · rw [← e11]; intro hw; have := i10 hw; omega
    · rw [← e12, ← e13, ← e14]; exact i11
    · rw [← e4]; exact i12
    · rw [← e4, ← e7]; exact i13
    · rw [← e7]; exact i14
    · rw [← e1]; exact i15
    · rw [← e2]; exact i16
    · rw [← e3]; exact i17
    · rw [← e8]; exact i18
    · rw [← e5]; exact i19
    · rw [← e9]; exact i20
    · rw [← e10]; exact i21
    · rw [← e7]; exact i22
  · rw [← h.full hn]; exact hI
structure In8 (E0 E : Env) (i q : Nat) : Prop where
  lt : i < (E0.i 60).toNat
  fr : frA (E0.a 5) i = true
  d : E.i 151 = dlC (E0.a 5) i
  i150 : E.i 150 = q
  qm : (q : Int) ≤ E.i 140
  X : ∀ t, t < q * 2 → E.a 103 t = E.a 102 t
theorem In8.up {q : Nat} (h : In8 E0 E i q) (H : AgE 1000 E E') : In8 E0 E' i q := ⟨h.lt, h.fr, by rw [H.i 151 (by decide)]; exact h.d, by rw [H.i 150 (by decide)]; exact h.i150, by rw [H.i 140 (by decide)]; exact h.qm, by rw [H.a 103 (by decide), H.a 102 (by decide)]; exact h.X⟩
def I8 (E0 : Env) (j : Nat) (E : Env) : Prop :=
  (j = 0 ∧ ∃ i, R8 E0 E i ∧ S8 E false (sAt (E0.a 5) i)) ∨ (j = 1 ∧ ∃ i, R8 E0 E i ∧ S8 E true (sAt (E0.a 5) i)) ∨ (j = 2 ∧ ∃ i q, R8 E0 E i ∧ S8 E true (sAt (E0.a 5) (i + 1)) ∧ In8 E0 E i q)
theorem I8.mk0 (hR : R8 E0 E i) (hS : S8 E false (sAt (E0.a 5) i)) : I8 E0 0 E := .inl ⟨rfl, i, hR, hS⟩
theorem I8.mk1 (hR : R8 E0 E i) (hS : S8 E true (sAt (E0.a 5) i)) : I8 E0 1 E := .inr (.inl ⟨rfl, i, hR, hS⟩)
theorem I8.mk2 {q : Nat} (hR : R8 E0 E i) (hS : S8 E true (sAt (E0.a 5) (i + 1))) (hI : In8 E0 E i q) : I8 E0 2 E := .inr (.inr ⟨rfl, i, q, hR, hS, hI⟩)
def mu8 (E0 : Env) (j : Nat) (E : Env) : Nat := (E0.i 60 - E.i 110).toNat * 200 + (if j = 2 then (E.i 140 - E.i 150).toNat else 100)
structure P8 (E0 : Env) : Prop where
  n0 : 0 ≤ E0.i 60
  n1 : E0.i 60 ≤ 63
  S : SOk (E0.a 5) (E0.i 60).toNat
theorem pre8 (hE : E.fn = fns) (hF : Facts E ct8.pre) : P8 E := by
  have hF' : Facts E [((.le (.c 0) (.v 60)), true), ((.le (.v 60) (.c 63)), true), sokF] := hF
  simp only [sokF, facts_cons, facts_nil, le_t, d_c, d_v, and_true] at hF'
  obtain ⟨a1, a2, a3⟩ := hF'
  refine ⟨a1, a2, ?_⟩
  have e' : E.fn.g 10 [.a ((AE.v 5).den E), .i (E.i 60)] = true := a3
  rw [hE] at e'
  have e2 : @decide (SOk ((AE.v 5).den E) (E.i 60).toNat) (Classical.propDecidable _) = true := e'
  exact @of_decide_eq_true _ (Classical.propDecidable _) e2
theorem pf_of (hE : E.fn = fns) (hF0 : Facts E0 ct8.pre) (hR : R8 E0 E i) {k : Bool} {top : Int} {j : Nat} (hj : j ≤ 63) (h : Inv (ofE k E) j top) (n0 : 0 ≤ E.i 100) : Facts E pf8 := by
  have hi := hR.i110
  have hle := hR.le
  have P := hF0
  have a1 : 0 ≤ E0.i 60 := of_decide_eq_true (hF0 (.le (.c 0) (.v 60), true) (by simp [ct8, bd]))
  have a2 : E0.i 60 ≤ 63 := of_decide_eq_true (hF0 (.le (.v 60) (.c 63), true) (by simp [ct8, bd]))
  have h1 : (E.i 100).toNat ≤ 51 := h.n1
  have h2 : E.i 106 ≤ E.i 136 := h.db
  have h3 : -1 ≤ E.i 106 := h.db0
  have h4 : E.i 136 ≤ max 0 top := h.ig
  have h5 := h.t1
  have h6 := h.t0
  have h7 : 0 ≤ E.i 131 ∧ E.i 131 ≤ j := h.c0
  have h8 : 0 ≤ E.i 132 ∧ E.i 132 ≤ j := h.c1
  have h9 : 0 ≤ E.i 133 ∧ E.i 133 ≤ j := h.ce
  have h10 : 0 ≤ E.i 134 ∧ E.i 134 ≤ 1000000000000000 := h.lt
  have h11 : 0 ≤ E.i 137 ∧ E.i 137 ≤ j := h.ct
  have h12 : 0 ≤ E.i 138 ∧ E.i 138 ≤ 2000000000000000 := h.al
  have h13 : -1 ≤ E.i 139 ∧ E.i 139 ≤ 400 := h.lw
  have h14 : 0 ≤ E.i 135 ∧ E.i 135 ≤ 400 ∧ 0 ≤ E.i 136 := by
    have e1 := h.e; have e2 := h.t; have e3 : 0 ≤ E.i 136 := h.ig0
    have g1 : (ofE k E).lo = E.i 135 := rfl
    have g2 : (ofE k E).ig = E.i 136 := rfl
    rw [g1, g2] at e1; rw [g1] at e2
    rcases Int.lt_or_le top 0 with c | c
    · have := e1 (by omega); omega
    · have := e2 c
      have := h.db
      omega
  have h15 : E.b 100 = true → 1 ≤ (E.i 100).toNat := h.nw
  have hrg : Rg (E.a 100) (E.i 100).toNat := h.rg
  have hor : (orB (.not (.v 100)) (.le (.c 1) (.v 100))).den E = true := by
    show (!(!(!E.b 100) && !decide (1 ≤ E.i 100))) = true
    cases hb : E.b 100
    · rfl
    · have := h15 hb
      rw [decide_eq_true (show 1 ≤ E.i 100 by omega)]; rfl
  have hrgF := of_rg hE (.v 100) (.v 100) (by
    show Rg ((AE.v 100).den E) (E.i 100).toNat
    rw [show (AE.v 100).den E = E.a 100 from by funext t; simp only [AE.den]]; exact hrg)
  refine facts_append (facts_append (facts_append (facts_append (facts_append (facts_append (facts_append (facts_append (facts_append (facts_append (facts_append (facts_append (facts_append (hR.ag.facts (by decide) hF0) ?_) ?_) ?_) ?_) ?_) ?_) ?_) ?_) ?_) ?_) ?_) ?_) ?_
  all_goals first
    | (simp only [bd, facts_cons, facts_nil, le_t, d_c, d_v, and_true]; omega)
    | skip
  intro q hq
  simp only [List.mem_cons, List.not_mem_nil, or_false] at hq
  rcases hq with rfl | rfl | rfl
  · exact hrgF
  · exact decide_eq_true h2
  · exact hor
theorem rd_of8 (hE : E.fn = fns) {top : Int} {j : Nat} (h : Inv (ofE true E) j top) (m0 : 0 ≤ E.i 140) : Facts E rdF8 := by
  obtain ⟨a, b, c⟩ := h.k rfl
  have a' : 1 ≤ (E.i 140).toNat := a
  have b' : (E.i 140).toNat ≤ 51 := b
  have c' : RgD (E.a 102) (E.i 140).toNat := c
  refine facts_append (by simp only [bd, facts_cons, facts_nil, le_t, d_c, d_v, and_true]; omega) ?_
  intro q hq
  simp only [List.mem_cons, List.not_mem_nil, or_false] at hq
  subst hq
  show E.fn.g 2 [.a ((AE.v 102).den E), .i (E.i 140)] = true
  rw [hE, show (AE.v 102).den E = E.a 102 from by funext t; simp only [AE.den]]
  show @decide (RgD (E.a 102) (E.i 140).toNat) (Classical.propDecidable _) = true
  exact @decide_eq_true _ (Classical.propDecidable _) c'
theorem sAt_k {S : Nat → Int} {n : Nat} (hS : SOk S n) (hn : n ≤ 63) {j : Nat} (hj : j ≤ n) : (colL S j).toNat * 2 ≤ 128 := by
  unfold colL
  have := (inv_at hS hn j hj).n1
  split
  · omega
  · simp
theorem addA_0 (A A' : Nat → Int) (p : Int) : addA A 0 p = addA A' 0 p := by
  funext j
  show ins2 A 0 0 p p j = ins2 A' 0 0 p p j
  unfold ins2
  simp only [Nat.zero_mul, Nat.not_lt_zero, if_false]
  by_cases h1 : j = 0
  · simp [h1]
  · by_cases h2 : j = 0 + 1
    · simp [h2]
    · rw [if_neg h1, if_neg h1, if_neg h2, if_neg h2, if_neg (by omega), if_neg (by omega)]
theorem rcv_A {s : St} {A' : Nat → Int} (hn : s.n = 0) (p e t : Int) (el : Bool) : rcv (s.setA A') p e t el = rcv s p e t el := by
  have h1 : addA A' s.n p = addA s.A s.n p := by rw [hn]; exact addA_0 _ _ _
  have h2 : addN A' s.n p = addN s.A s.n p := by rw [hn]; rfl
  have h3 : nmD (s.setA A') p = nmD s p := by
    show (decide (1 ≤ grt s.lo p) && decide (hm (addA A' s.n p) (addN A' s.n p) (grt s.lo p - 1) s.db ≠ -1 ∧ s.B 1 ≤ hm (addA A' s.n p) (addN A' s.n p) (grt s.lo p - 1) s.db ∧ s.B 1 - 1 < hm (addA A' s.n p) (addN A' s.n p) (grt s.lo p - 1) s.db)) = _
    rw [h1, h2]; rfl
  have h4 : sqD (s.setA A') p e el = sqD s p e el := by
    show (s.qd || (el && ((s.k && msD s p) || (decide (2 ≤ s.ct + 1) || ((s.k && nmD (s.setA A') p) || decide (ecnI e = 4)))))) = _
    rw [h3]; rfl
  unfold rcv
  rw [h4]
  show St.mk _ _ _ _ _ _ _ _ _ _ _ _ _ (addN A' s.n p) _ (addA A' s.n p) _ = _
  rw [h1, h2]
  rfl
theorem memD_0 (A : Nat → Int) (p : Int) : memD A 0 p = false := by
  cases h : memD A 0 p with
  | false => rfl
  | true => obtain ⟨q, hq, _⟩ := memD_iff.1 h; exact absurd hq (Nat.not_lt_zero _)
theorem S8.rcv {k : Bool} {s : St} (h : S8 E k s) (p e t : Int) (el : Bool) : rcv s p e t el = Ytgianhjmjiiadaa.rcv (ofE k E) p e t el := by
  by_cases hn : s.n = 0
  · have h1 := h.e
    have h2 : (ofE k E).n = 0 := by rw [← hn]; exact (congrArg St.n h1).symm
    rw [h1]; exact rcv_A h2 p e t el
  · rw [← h.full hn]
theorem S8.old {k : Bool} {s : St} (h : S8 E k s) (p : Int) : isOld s p = (decide (p < E.i 106) || memD (E.a 100) (E.i 100).toNat p) := by
  by_cases hn : s.n = 0
  · have h1 := h.e
    have h2 : (ofE k E).n = 0 := by rw [← hn]; exact (congrArg St.n h1).symm
    have h3 : (E.i 100).toNat = 0 := h2
    have h4 : s.db = E.i 106 := congrArg St.db h1
    unfold isOld
    rw [hn, h3, h4, memD_0, memD_0]
  · rw [h.full hn]; rfl
theorem S8.asks {k : Bool} {s : St} (h : S8 E k s) (t : Int) (on : Bool) : asks s t on = (E.b 100 && !(on && (!E.b 101 && (decide (E.i 138 = 0) || decide (t < E.i 138))))) := by
  rw [h.e]; rfl
structure Cx (E0 E : Env) (i : Nat) (k : Bool) (b : Nat) : Prop where
  h0 : E0.fn = fns
  hE : E.fn = fns
  F0 : Facts E0 ct8.pre
  P : P8 E0
  R : R8 E0 E i
  S : S8 E k (sAt (E0.a 5) i)
  I : Inv (ofE k E) i (topA (E0.a 5) i)
  b : b = (E0.i 60 - E.i 110).toNat * 200 + 100
def rsE (c : Int) : SE := .rd (.v 5) (.add (.mul (.v 110) (.c 6)) (.c c))
def rs0 : SE := .rd (.v 5) (.mul (.v 110) (.c 6))
section
variable {k : Bool} {b : Nat}
theorem Cx.at0 (c : Cx E0 E i k b) : rs0.den E = kdA (E0.a 5) i := by
  show E.a 5 (E.i 110 * 6).toNat = E0.a 5 (i * 6)
  rw [c.R.ag.a 5 (by decide), c.R.i110, show ((i : Int) * 6).toNat = i * 6 by omega]
theorem Cx.at' (c : Cx E0 E i k b) (j : Nat) : (rsE j).den E = E0.a 5 (i * 6 + j) := by
  show E.a 5 (E.i 110 * 6 + (j : Int)).toNat = _
  rw [c.R.ag.a 5 (by decide), c.R.i110, show ((i : Int) * 6 + (j : Int)).toNat = i * 6 + j by omega]
theorem Cx.ec (c : Cx E0 E i k b) : (rsE 1).den E = ecA (E0.a 5) i := c.at' 1
theorem Cx.pn (c : Cx E0 E i k b) : (rsE 2).den E = pnA (E0.a 5) i := c.at' 2
theorem Cx.tm (c : Cx E0 E i k b) : (rsE 3).den E = tmA (E0.a 5) i := c.at' 3
theorem Cx.el (c : Cx E0 E i k b) : elA (E0.a 5) i = !(SB.eq (rsE 4) (.c 0)).den E := by
  show (!(E0.a 5 (i * 6 + 4) == 0)) = !((rsE 4).den E == 0)
  rw [show (rsE 4).den E = _ from c.at' 4]
theorem Cx.on (c : Cx E0 E i k b) : onA (E0.a 5) i = !(SB.eq (rsE 5) (.c 0)).den E := by
  show (!(E0.a 5 (i * 6 + 5) == 0)) = !((rsE 5).den E == 0)
  rw [show (rsE 5).den E = _ from c.at' 5]
theorem Cx.lt (c : Cx E0 E i k b) (h : (SB.lt (.v 110) (.v 60)).den E = true) : i < (E0.i 60).toNat := by
  have h1 : E.i 110 < E.i 60 := lt_t.1 h
  have h2 := c.R.ag.i 60 (by decide)
  have h3 := c.R.i110
  omega
theorem Cx.kd (c : Cx E0 E i k b) {n : Int} (h : (SB.eq rs0 (.c n)).den E = true) : kdA (E0.a 5) i = n := by
  rw [← c.at0]; exact eq_t.1 h
theorem Cx.nk (c : Cx E0 E i k b) {n : Int} (h : (SB.eq rs0 (.c n)).den E = false) : kdA (E0.a 5) i ≠ n := by
  rw [← c.at0]; exact eq_f.1 h
def memS : SB := .ap 6 (.a (.v 100) (.i (.v 100) (.i (rsE 2) .nil)))
theorem memS_den (hE : E.fn = fns) : memS.den E = memD (E.a 100) (E.i 100).toNat ((rsE 2).den E) := by
  obtain ⟨ii, bb, aa, oo, fn⟩ := E
  have : fn = fns := hE
  subst this; rfl
theorem Cx.old (c : Cx E0 E i k b) : isOld (sAt (E0.a 5) i) (pnA (E0.a 5) i) = ((SB.lt (rsE 2) (.v 106)).den E || memS.den E) := by
  rw [c.S.old, memS_den c.hE, ← c.pn]; rfl
theorem Cx.old1 (c : Cx E0 E i k b) (h : (SB.lt (rsE 2) (.v 106)).den E = true) : isOld (sAt (E0.a 5) i) (pnA (E0.a 5) i) = true := by rw [c.old, h]; rfl
theorem Cx.old2 (c : Cx E0 E i k b) (h : memS.den E = true) : isOld (sAt (E0.a 5) i) (pnA (E0.a 5) i) = true := by rw [c.old, h, Bool.or_true]
theorem Cx.old3 (c : Cx E0 E i k b) (h1 : (SB.lt (rsE 2) (.v 106)).den E = false) : isOld (sAt (E0.a 5) i) (pnA (E0.a 5) i) = memS.den E := by rw [c.old, h1]; rfl
theorem Cx.asks (c : Cx E0 E i k b) : asks (sAt (E0.a 5) i) (tmA (E0.a 5) i) (onA (E0.a 5) i) = ((SB.v 100).den E && !(!(SB.eq (rsE 5) (.c 0)).den E && (!(SB.v 101).den E && ((SB.eq (.v 138) (.c 0)).den E || (SB.lt (rsE 3) (.v 138)).den E)))) := by
  rw [c.S.asks, c.on, ← c.tm]; rfl
theorem Cx.cb (c : Cx E0 E i k b) : ∀ j, j ≤ i → (colL (E0.a 5) j).toNat * 2 ≤ 128 := fun j hj => sAt_k c.P.S (by have := c.P.n1; omega) (Nat.le_trans hj c.R.le)
theorem Cx.dead1 (c : Cx E0 E i k b) (h : (SB.and (.v 100) (.not (.le (.c 1) (.v 100)))).den E = true) : False := by
  have h' : (E.b 100 && !decide (1 ≤ E.i 100)) = true := h
  rw [Bool.and_eq_true] at h'
  have h1 : 1 ≤ (E.i 100).toNat := c.I.nw h'.1
  rw [decide_eq_true (show 1 ≤ E.i 100 by omega)] at h'
  exact absurd h'.2 (by decide)
theorem Cx.dead2 (c : Cx E0 E i k b) (h1 : (SB.lt (rsE 2) (.v 106)).den E = true) (h2 : (SB.le (rsE 2) (.v 136)).den E = false) : False := by
  have h1 : (rsE 2).den E < E.i 106 := lt_t.1 h1
  have h2 : E.i 136 < (rsE 2).den E := le_f.1 h2
  have h3 : E.i 106 ≤ E.i 136 := c.I.db
  omega
theorem Cx.fin (c : Cx E0 E i k b) (hlt : i < (E0.i 60).toNat) {E' : Env} (f w : SB) (d a x y z l : SE) (Q : AE) (hag : AgP 100 E0 E') (h110 : E'.i 110 = E.i 110 + 1)
    (h120 : E'.a 120 = (AE.tl (.v 120) (.mul (.v 110) (.c 8)) (.b f (.b w (.i (.c 0) (.i d (.i a (.i x (.i y (.i z .nil))))))))).den E)
    (hsay : Say (E0.a 5) i (f.den E) (w.den E) (d.den E) (a.den E) (x.den E) (y.den E) (z.den E))
    (h122 : E'.a 122 = (AE.tl (.v 122) (.v 110) (.i l .nil)).den E) (hl : l.den E = colL (E0.a 5) i)
    (h124 : E'.a 124 = (AE.ap 1 (.a (.v 124) (.i (.mul (.v 110) (.c 128)) (.a Q .nil)))).den E) (hQ : ∀ u, u < (colL (E0.a 5) i).toNat * 2 → Q.den E u = colC (E0.a 5) (i * 128 + u)) : R8 E0 E' (i + 1) := by
  have h8 : ((SE.mul (.v 110) (.c 8)).den E).toNat = i * 8 := by
    show (E.i 110 * 8).toNat = _
    rw [c.R.i110]; omega
  have h1 : ((SE.v 110).den E).toNat = i := by
    show (E.i 110).toNat = _
    rw [c.R.i110]; omega
  have h128 : ((SE.mul (.v 110) (.c 128)).den E).toNat = i * 128 := by
    show (E.i 110 * 128).toNat = _
    rw [c.R.i110]; omega
  exact c.R.next hlt hag h110 (fun t => by rw [h120]; exact tlE h8 t) (hsay.nth rfl) (fun t => by rw [h122]; exact tlE h1 t) hl (fun t => by rw [h124]; exact catE c.hE h128 t) hQ c.cb
theorem Cx.mu (c : Cx E0 E i k b) (hlt : i < (E0.i 60).toNat) {E' : Env} (h110 : E'.i 110 = E.i 110 + 1) {j : Nat} (hj : j < 2) : mu8 E0 j E' < b := by
  rw [c.b]
  unfold mu8
  rw [if_neg (by omega), h110, c.R.i110]
  omega
end
end Go.Proofs.Ytgianhjmjiiadaa
