/- What holds at the head of the peer's script's loop, and how a step keeps it. -/
import Derived.Test.YtjanndmmhjnpcaaDoorQcF
set_option autoImplicit true
set_option relaxedAutoImplicit true
set_option linter.unusedVariables false
set_option linter.unusedSimpArgs false
set_option maxRecDepth 100000
namespace Go.Proofs.YtjanndmmhjnpcaaDoor
open Go Go.Sy Go.RowKit
variable {E0 E E' : Env} {i : Nat} {tk tk' : Bool}
theorem catch_idle (a : Value) (w : World) : CallsD Tryd.prog 11 #[a] .returning w fun e u w' => (∃ v, e = .returned v) ∧ u = .returning ∧ w' = w := by
  refine callsD_of_wpS Tryd.func11 rfl fun c₀ cs hu => ?_
  apply wpS_seq
  apply wpS_region
  simp [wpOpsS, go_sem, recoverD, hu, Tryd.ntmps11, Exit.thenS]
  refine wpS_cond (t := false) (by simp [Act.eval, Array.replicate]) ?_
  simp only [Bool.false_eq_true, if_false]
  refine wpS_of_wp (wp_skip ?_)
  cases c₀
  simp_all [bodyPostS, results, Tryd.results11]
theorem i37 : (Tryd.prog.info? 37).map (fun i => (i.zero.map (·.cells.size), i.size, i.bytes)) = some (some 6, 6, 96) := by kernel_rfl
theorem t26 : Tryd.prog.underlying 26 = some (.slice 37) := by kernel_rfl
theorem prm6_ok (E : Env) (hE : E.fn = fns) : PrmOk E (prm6 Tryd.prog) where
  bt := by
    intro b hb
    rw [hE]
    have hb' : b ∈ btQ Tryd.prog ++ [btRecApp 26 1000 1 r6] := hb
    rcases List.mem_append.1 hb' with h | h
    · exact btQ_ok b h
    · have : b = btRecApp 26 1000 1 r6 := by simpa using h
      subst this
      obtain ⟨i, z, hi, hz, hzc, his, hib⟩ := info_of i37
      exact btRecApp_ok rok6 t26 hi hz (by rw [hzc, his]) his (by omega) (by decide) (by decide)
  ct := by
    intro c hc
    have : c = ct41n ∨ c = ct41t ∨ c = ct35n ∨ c = ct35t ∨ c = ct24n ∨ c = ct24t ∨ c = ct13v ∨ c = ct20 := by simpa [prm6] using hc
    rw [hE]
    rcases this with rfl | rfl | rfl | rfl | rfl | rfl | rfl | rfl
    · exact ct41n_ok
    · exact ct41t_ok
    · exact ct35n_ok
    · exact ct35t_ok
    · exact ct24n_ok
    · exact ct24t_ok
    · exact ct13v_ok
    · exact ct20_ok
  mix := Checked.mixed Tryd.checked
  okf := okf_call
  body := okf_body
  mts := by intro x hx; cases hx
  dfr := by
    intro f hf a w
    have : f = 11 := by simpa [prm6] using hf
    subst this
    exact catch_idle a w
  dfk := by
    intro f hf
    have : f = 11 := by simpa [prm6] using hf
    subst this; decide
structure I6 (E0 E : Env) (i : Nat) (tk : Bool) : Prop where
  ag : AgP 100 E0 E
  i130 : E.i 130 = i
  le : i ≤ (E0.i 40).toNat
  q0 : E.i 100 = ((stq (E0.a 5) (E0.i 12) i).q.length : Int)
  q1 : E.a 100 = arr (stq (E0.a 5) (E0.i 12) i).q
  c : E.i 110 = (stq (E0.a 5) (E0.i 12) i).act
  h : E.i 111 = (stq (E0.a 5) (E0.i 12) i).hi
  p : E.i 113 = (stq (E0.a 5) (E0.i 12) i).pk
  r : E.i 114 = (stq (E0.a 5) (E0.i 12) i).per
  b : E.b 100 = (stq (E0.a 5) (E0.i 12) i).ready
  t : (stq (E0.a 5) (E0.i 12) i).tok = tk
  A : ∀ t, t < i * 6 → E.a 120 t = colA (E0.a 5) (E0.i 12) t
  L : ∀ t, t < i * 3 → E.a 122 t = colL (E0.a 5) (E0.i 12) t
  C : ∀ k, k < i * 3 → ∀ u, u < (colL (E0.a 5) (E0.i 12) k).toNat → E.a 124 (k * 64 + u) = colC (E0.a 5) (E0.i 12) (k * 64 + u)
theorem I6.up (h : I6 E0 E i tk) (H : AgE 1000 E E') : I6 E0 E' i tk where
  ag := h.ag.trans (by omega) H.p
  i130 := by rw [H.i 130 (by decide)]; exact h.i130
  le := h.le
  q0 := by rw [H.i 100 (by decide)]; exact h.q0
  q1 := by rw [H.a 100 (by decide)]; exact h.q1
  c := by rw [H.i 110 (by decide)]; exact h.c
  h := by rw [H.i 111 (by decide)]; exact h.h
  p := by rw [H.i 113 (by decide)]; exact h.p
  r := by rw [H.i 114 (by decide)]; exact h.r
  b := by rw [H.b 100 (by decide)]; exact h.b
  t := h.t
  A := by rw [H.a 120 (by decide)]; exact h.A
  L := by rw [H.a 122 (by decide)]; exact h.L
  C := by rw [H.a 124 (by decide)]; exact h.C
theorem adR_len (q : List Int) (act hi s p : Int) : (adR q act hi s p).length ≤ q.length + 1 := by
  have := gq_le q p
  unfold adR
  split
  · simp
  · split
    · rw [List.length_append]; simp only [List.length_cons, List.length_nil]; omega
    · omega
theorem ret_len (s : QS) (k sq pr : Int) : (s.ret k sq pr).length ≤ s.q.length + 1 := by
  unfold QS.ret
  split
  · exact adR_len _ _ _ _ _
  · split <;> simp
theorem add_len (s : QS) (k sq pr : Int) : (s.add k sq pr).length ≤ 1 := by
  unfold QS.add
  split
  · simp
  · split <;> simp
theorem off_len (s : QS) (k sq pr : Int) : (s.off k sq pr).length ≤ 1 := by
  unfold QS.off
  split <;> simp
theorem col_len {S : Nat → Int} {n : Nat} (hS : SOk S n) {r : Int} (hr : 0 ≤ r) (hn : n ≤ 50) {k : Nat} (hk : k < n * 3) : (colL S r k).toNat ≤ 64 := by
  have hi : k / 3 < n := by omega
  have hq := (stq_ok hS hr (k / 3) (by omega)).n
  unfold colL colOf
  rw [Int.toNat_natCast]
  split
  · have := ret_len (stq S r (k / 3)) (S (k / 3 * 5)) (S (k / 3 * 5 + 1)) (S (k / 3 * 5 + 2))
    unfold retAt; omega
  · split
    · have := add_len (stq S r (k / 3)) (S (k / 3 * 5)) (S (k / 3 * 5 + 1)) (S (k / 3 * 5 + 2))
      unfold addAt; omega
    · have := off_len (stq S r (k / 3)) (S (k / 3 * 5)) (S (k / 3 * 5 + 1)) (S (k / 3 * 5 + 2))
      unfold offAt; omega
theorem colL_at (S : Nat → Int) (r : Int) (i c : Nat) (hc : c < 3) : colL S r (i * 3 + c) = ((colOf S r i c).length : Int) := by
  unfold colL
  rw [show (i * 3 + c) / 3 = i by omega, show (i * 3 + c) % 3 = c by omega]
theorem colC_at (S : Nat → Int) (r : Int) (i c u : Nat) (hc : c < 3) (hu : u < 64) : colC S r ((i * 3 + c) * 64 + u) = arr (colOf S r i c) u := by
  unfold colC
  rw [show ((i * 3 + c) * 64 + u) / 64 = i * 3 + c by omega, show ((i * 3 + c) * 64 + u) % 64 = u by omega, show (i * 3 + c) / 3 = i by omega, show (i * 3 + c) % 3 = c by omega]
theorem I6.step (h : I6 E0 E i tk) (hlt : i < (E0.i 40).toNat) (hn : (E0.i 40).toNat ≤ 50) (hS : SOk (E0.a 5) (E0.i 40).toNat) (hr : 0 ≤ E0.i 12) (hag : AgP 100 E0 E') (h130 : E'.i 130 = E.i 130 + 1)
    {s' : QS} (hs : stq (E0.a 5) (E0.i 12) (i + 1) = s') (g0 : E'.i 100 = (s'.q.length : Int)) (g1 : E'.a 100 = arr s'.q) (gc : E'.i 110 = s'.act) (gh : E'.i 111 = s'.hi) (gp : E'.i 113 = s'.pk) (gr : E'.i 114 = s'.per) (gb : E'.b 100 = s'.ready) (gt : s'.tok = tk')
    {lA lL R Ad Of : Nat → Int} (cA : ∀ t, E'.a 120 t = if t < i * 6 then E.a 120 t else lA (t - i * 6)) (a0 : lA 0 = codeAt (E0.a 5) (E0.i 12) i) (a1 : lA 1 = nowAt (E0.a 5) (E0.i 12) i) (a2 : ∀ c, 2 ≤ c → c < 6 → lA c = 0)
    (cL : ∀ t, E'.a 122 t = if t < i * 3 then E.a 122 t else lL (t - i * 3)) (l0 : lL 0 = ((retAt (E0.a 5) (E0.i 12) i).length : Int)) (l1 : lL 1 = ((addAt (E0.a 5) (E0.i 12) i).length : Int)) (l2 : lL 2 = ((offAt (E0.a 5) (E0.i 12) i).length : Int))
    (cC : ∀ t, E'.a 124 t = if t < i * 192 + 128 then (if t < i * 192 + 64 then (if t < i * 192 then E.a 124 t else R (t - i * 192)) else Ad (t - (i * 192 + 64))) else Of (t - (i * 192 + 128)))
    (hR : ∀ u, u < (retAt (E0.a 5) (E0.i 12) i).length → R u = arr (retAt (E0.a 5) (E0.i 12) i) u) (hAd : ∀ u, u < (addAt (E0.a 5) (E0.i 12) i).length → Ad u = arr (addAt (E0.a 5) (E0.i 12) i) u)
    (hOf : ∀ u, u < (offAt (E0.a 5) (E0.i 12) i).length → Of u = arr (offAt (E0.a 5) (E0.i 12) i) u) : I6 E0 E' (i + 1) tk' where
  ag := hag
  i130 := by rw [h130, h.i130]; omega
  le := by omega
  q0 := by rw [hs]; exact g0
  q1 := by rw [hs]; exact g1
  c := by rw [hs]; exact gc
  h := by rw [hs]; exact gh
  p := by rw [hs]; exact gp
  r := by rw [hs]; exact gr
  b := by rw [hs]; exact gb
  t := by rw [hs]; exact gt
  A t ht := by
    rw [cA]
    split
    · rename_i h1; exact h.A t h1
    · rename_i h1
      obtain ⟨c, rfl⟩ : ∃ c, t = i * 6 + c := ⟨t - i * 6, by omega⟩
      have hc : c < 6 := by omega
      rw [Nat.add_sub_cancel_left]
      unfold colA
      rw [show (i * 6 + c) % 6 = c by omega, show (i * 6 + c) / 6 = i by omega]
      by_cases c0 : c = 0
      · rw [if_pos c0, c0]; exact a0
      · rw [if_neg c0]
        by_cases c1 : c = 1
        · rw [if_pos c1, c1]; exact a1
        · rw [if_neg c1]; exact a2 c (by omega) hc
  L t ht := by
    rw [cL]
    split
    · rename_i h1; exact h.L t h1
    · rename_i h1
      obtain ⟨c, rfl⟩ : ∃ c, t = i * 3 + c := ⟨t - i * 3, by omega⟩
      have hc : c < 3 := by omega
      rw [Nat.add_sub_cancel_left, colL_at _ _ _ _ hc]
      unfold colOf
      by_cases c0 : c = 0
      · rw [if_pos c0, c0]; exact l0
      · rw [if_neg c0]
        by_cases c1 : c = 1
        · rw [if_pos c1, c1]; exact l1
        · rw [if_neg c1, show c = 2 by omega]; exact l2
  C k hk u hu := by
    have hw := col_len hS hr hn (k := k) (by omega)
    rw [cC]
    by_cases h1 : k < i * 3
    · rw [if_pos (by omega), if_pos (by omega), if_pos (by omega)]; exact h.C k h1 u hu
    · obtain ⟨c, rfl⟩ : ∃ c, k = i * 3 + c := ⟨k - i * 3, by omega⟩
      have hc : c < 3 := by omega
      rw [colC_at _ _ _ _ _ hc (by omega)]
      rw [colL_at _ _ _ _ hc, Int.toNat_natCast] at hu
      have hu64 : u < 64 := by
        rw [colL_at _ _ _ _ hc, Int.toNat_natCast] at hw; omega
      unfold colOf at hu ⊢
      by_cases c0 : c = 0
      · subst c0
        simp only [if_true] at hu ⊢
        rw [if_pos (by omega), if_pos (by omega), if_neg (by omega), show (i * 3 + 0) * 64 + u - i * 192 = u by omega]; exact hR u hu
      · by_cases c1 : c = 1
        · subst c1
          simp only [Nat.one_ne_zero, if_false, if_true] at hu ⊢
          rw [if_pos (by omega), if_neg (by omega), show (i * 3 + 1) * 64 + u - (i * 192 + 64) = u by omega]; exact hAd u hu
        · have c2 : c = 2 := by omega
          subst c2
          simp only [if_neg c0, if_neg c1] at hu ⊢
          rw [if_neg (by omega), show (i * 3 + 2) * 64 + u - (i * 192 + 128) = u by omega]; exact hOf u hu
theorem q_of (h : I6 E0 E i tk) : lst (E.a 100) (E.i 100).toNat = (stq (E0.a 5) (E0.i 12) i).q := by rw [h.q1, h.q0, Int.toNat_natCast, lst_arr]
theorem e10 (hE : E.fn = fns) (h : I6 E0 E i tk) (x y : SE) : (SE.ap 10 (.a (.v 100) (.i (.v 100) (.i (.v 110) (.i (.v 111) (.i x (.i y .nil))))))).den E = ((adQ (stq (E0.a 5) (E0.i 12) i).q (stq (E0.a 5) (E0.i 12) i).act (stq (E0.a 5) (E0.i 12) i).hi (x.den E) (y.den E)).length : Int) := by
  have e : (SE.ap 10 (.a (.v 100) (.i (.v 100) (.i (.v 110) (.i (.v 111) (.i x (.i y .nil))))))).den E = ((adQ (lst (E.a 100) (E.i 100).toNat) (E.i 110) (E.i 111) (x.den E) (y.den E)).length : Int) := by simp only [SE.den, SL.den, hE]; rfl
  rw [e, q_of h, h.c, h.h]
theorem ea10 (hE : E.fn = fns) (h : I6 E0 E i tk) (x y : SE) : (AE.ap 10 (.a (.v 100) (.i (.v 100) (.i (.v 110) (.i (.v 111) (.i x (.i y .nil))))))).den E = arr (adQ (stq (E0.a 5) (E0.i 12) i).q (stq (E0.a 5) (E0.i 12) i).act (stq (E0.a 5) (E0.i 12) i).hi (x.den E) (y.den E)) := by
  have e : (AE.ap 10 (.a (.v 100) (.i (.v 100) (.i (.v 110) (.i (.v 111) (.i x (.i y .nil))))))).den E = arr (adQ (lst (E.a 100) (E.i 100).toNat) (E.i 110) (E.i 111) (x.den E) (y.den E)) := by funext j; simp only [AE.den, SE.den, SL.den, hE]; rfl
  rw [e, q_of h, h.c, h.h]
theorem e11 (hE : E.fn = fns) (h : I6 E0 E i tk) (x y : SE) : (SE.ap 11 (.a (.v 100) (.i (.v 100) (.i (.v 110) (.i (.v 111) (.i x (.i y .nil))))))).den E = adA (stq (E0.a 5) (E0.i 12) i).q (stq (E0.a 5) (E0.i 12) i).act (stq (E0.a 5) (E0.i 12) i).hi (x.den E) (y.den E) := by
  have e : (SE.ap 11 (.a (.v 100) (.i (.v 100) (.i (.v 110) (.i (.v 111) (.i x (.i y .nil))))))).den E = adA (lst (E.a 100) (E.i 100).toNat) (E.i 110) (E.i 111) (x.den E) (y.den E) := by simp only [SE.den, SL.den, hE]; rfl
  rw [e, q_of h, h.c, h.h]
theorem e12 (hE : E.fn = fns) (h : I6 E0 E i tk) (x y : SE) : (SE.ap 12 (.i (.v 110) (.i (.v 111) (.i x (.i y .nil))))).den E = adH (stq (E0.a 5) (E0.i 12) i).act (stq (E0.a 5) (E0.i 12) i).hi (x.den E) (y.den E) := by
  have e : (SE.ap 12 (.i (.v 110) (.i (.v 111) (.i x (.i y .nil))))).den E = adH (E.i 110) (E.i 111) (x.den E) (y.den E) := by simp only [SE.den, SL.den, hE]; rfl
  rw [e, h.c, h.h]
theorem e13 (hE : E.fn = fns) (h : I6 E0 E i tk) (x y : SE) : (SE.ap 13 (.a (.v 100) (.i (.v 100) (.i (.v 110) (.i (.v 111) (.i x (.i y .nil))))))).den E = ((adR (stq (E0.a 5) (E0.i 12) i).q (stq (E0.a 5) (E0.i 12) i).act (stq (E0.a 5) (E0.i 12) i).hi (x.den E) (y.den E)).length : Int) := by
  have e : (SE.ap 13 (.a (.v 100) (.i (.v 100) (.i (.v 110) (.i (.v 111) (.i x (.i y .nil))))))).den E = ((adR (lst (E.a 100) (E.i 100).toNat) (E.i 110) (E.i 111) (x.den E) (y.den E)).length : Int) := by simp only [SE.den, SL.den, hE]; rfl
  rw [e, q_of h, h.c, h.h]
theorem ea13 (hE : E.fn = fns) (h : I6 E0 E i tk) (x y : SE) : (AE.ap 13 (.a (.v 100) (.i (.v 100) (.i (.v 110) (.i (.v 111) (.i x (.i y .nil))))))).den E = arr (adR (stq (E0.a 5) (E0.i 12) i).q (stq (E0.a 5) (E0.i 12) i).act (stq (E0.a 5) (E0.i 12) i).hi (x.den E) (y.den E)) := by
  have e : (AE.ap 13 (.a (.v 100) (.i (.v 100) (.i (.v 110) (.i (.v 111) (.i x (.i y .nil))))))).den E = arr (adR (lst (E.a 100) (E.i 100).toNat) (E.i 110) (E.i 111) (x.den E) (y.den E)) := by funext j; simp only [AE.den, SE.den, SL.den, hE]; rfl
  rw [e, q_of h, h.c, h.h]
theorem eg10 (hE : E.fn = fns) (h : I6 E0 E i tk) (x y : SE) : (SB.ap 10 (.i (.v 110) (.i (.v 111) (.i x (.i y .nil))))).den E = (stq (E0.a 5) (E0.i 12) i).up (x.den E) (y.den E) := by
  have e : (SB.ap 10 (.i (.v 110) (.i (.v 111) (.i x (.i y .nil))))).den E = adU (E.i 110) (E.i 111) (x.den E) (y.den E) := by simp only [SB.den, SE.den, SL.den, hE]; rfl
  rw [e, h.c, h.h]; rfl
theorem eg11 (hE : E.fn = fns) (h : I6 E0 E i tk) : (SB.ap 11 (.b (.v 100) (.i (.v 100) (.i (.v 110) (.i (.v 113) (.i (.v 114) .nil)))))).den E = (stq (E0.a 5) (E0.i 12) i).sh := by
  have e : (SB.ap 11 (.b (.v 100) (.i (.v 100) (.i (.v 110) (.i (.v 113) (.i (.v 114) .nil)))))).den E = shd (E.i 100).toNat (E.i 110) (E.i 113) (E.i 114) (decide (b2i (E.b 100) = 1)) := by simp only [SB.den, SE.den, SL.den, hE]; rfl
  rw [e, h.q0, h.c, h.p, h.r, h.b, Int.toNat_natCast]
  unfold QS.sh
  cases (stq (E0.a 5) (E0.i 12) i).ready <;> rfl
theorem tlE {a m : Nat} {e : SE} {l : SL} (he : (e.den E).toNat = m) (t : Nat) : (AE.tl (.v a) e l).den E t = if t < m then E.a a t else l.nth E (t - m) := by
  simp only [AE.den, he]
theorem catE (hE : E.fn = fns) {b0 b1 b2 : SE} {R Ad Of : AE} {m : Nat} (h0 : (b0.den E).toNat = m * 192) (h1 : (b1.den E).toNat = m * 192 + 64) (h2 : (b2.den E).toNat = m * 192 + 128) (t : Nat) :
    (AE.ap 1 (.a (AE.ap 1 (.a (AE.ap 1 (.a (.v 124) (.i b0 (.a R .nil)))) (.i b1 (.a Ad .nil)))) (.i b2 (.a Of .nil)))).den E t = if t < m * 192 + 128 then (if t < m * 192 + 64 then (if t < m * 192 then E.a 124 t else R.den E (t - m * 192)) else Ad.den E (t - (m * 192 + 64))) else Of.den E (t - (m * 192 + 128)) := by
  have e : ∀ (C a : AE) (b : SE) t, (AE.ap 1 (.a C (.i b (.a a .nil)))).den E t = if t < (b.den E).toNat then C.den E t else a.den E (t - (b.den E).toNat) := fun C a b t => by
    simp only [AE.den, SL.den, hE]; rfl
  rw [e, e, e, h0, h1, h2]
  simp only [AE.den]
theorem oneE {x : SE} {X : Int} (hx : x.den E = X) : ∀ u, u < [X].length → (AE.tl (.tl (.v 100) (.c 0) .nil) (.c 0) (.i x .nil)).den E u = arr [X] u := fun u hu => by
  have : u = 0 := by simpa using hu
  subst this
  simp only [AE.den, d_c, Int.toNat_zero, Nat.not_lt_zero, if_false, Nat.sub_zero]
  exact hx
section
variable {S : Nat → Int} {r : Int}
theorem way0u (hk : S (i * 5) = 0) (hu : (stq S r i).up (S (i * 5 + 1)) (S (i * 5 + 2)) = true) :
    codeAt S r i = (if 4 ≤ (adQ (stq S r i).q (stq S r i).act (stq S r i).hi (S (i * 5 + 1)) (S (i * 5 + 2))).length then 9 else 0) ∧ nowAt S r i = -1 ∧ retAt S r i = adR (stq S r i).q (stq S r i).act (stq S r i).hi (S (i * 5 + 1)) (S (i * 5 + 2)) ∧
    addAt S r i = [adA (stq S r i).q (stq S r i).act (stq S r i).hi (S (i * 5 + 1)) (S (i * 5 + 2))] ∧ offAt S r i = (if (stq S r i).tok then [(stq S r i).act] else []) ∧
    stq S r (i + 1) = { q := adQ (stq S r i).q (stq S r i).act (stq S r i).hi (S (i * 5 + 1)) (S (i * 5 + 2)), act := adA (stq S r i).q (stq S r i).act (stq S r i).hi (S (i * 5 + 1)) (S (i * 5 + 2)), hi := adH (stq S r i).act (stq S r i).hi (S (i * 5 + 1)) (S (i * 5 + 2)), pk := 0, per := perOf r, ready := (stq S r i).ready, tok := true } := by
  refine ⟨?_, ?_, ?_, ?_, ?_, ?_⟩
  · simp [codeAt, QS.code, hk]
  · simp [nowAt, QS.now, hk]
  · simp [retAt, QS.ret, hk]
  · simp [addAt, QS.add, hk, hu]
  · simp [offAt, QS.off, hk, hu]
  · show (stq S r i).step r (S (i * 5)) (S (i * 5 + 1)) (S (i * 5 + 2)) = _
    simp [QS.step, hk, hu]
theorem way0n (hk : S (i * 5) = 0) (hu : (stq S r i).up (S (i * 5 + 1)) (S (i * 5 + 2)) = false) :
    codeAt S r i = (if 4 ≤ (adQ (stq S r i).q (stq S r i).act (stq S r i).hi (S (i * 5 + 1)) (S (i * 5 + 2))).length then 9 else 0) ∧ nowAt S r i = -1 ∧ retAt S r i = adR (stq S r i).q (stq S r i).act (stq S r i).hi (S (i * 5 + 1)) (S (i * 5 + 2)) ∧
    addAt S r i = [] ∧ offAt S r i = [] ∧
    stq S r (i + 1) = { q := adQ (stq S r i).q (stq S r i).act (stq S r i).hi (S (i * 5 + 1)) (S (i * 5 + 2)), act := (stq S r i).act, hi := adH (stq S r i).act (stq S r i).hi (S (i * 5 + 1)) (S (i * 5 + 2)), pk := (stq S r i).pk, per := (stq S r i).per, ready := (stq S r i).ready, tok := (stq S r i).tok } := by
  have ha : adA (stq S r i).q (stq S r i).act (stq S r i).hi (S (i * 5 + 1)) (S (i * 5 + 2)) = (stq S r i).act := by
    unfold QS.up at hu
    simp [adA, hu]
  refine ⟨?_, ?_, ?_, ?_, ?_, ?_⟩
  · simp [codeAt, QS.code, hk]
  · simp [nowAt, QS.now, hk]
  · simp [retAt, QS.ret, hk]
  · simp [addAt, QS.add, hk, hu]
  · simp [offAt, QS.off, hk, hu]
  · show (stq S r i).step r (S (i * 5)) (S (i * 5 + 1)) (S (i * 5 + 2)) = _
    simp [QS.step, hk, hu, ha]
theorem way1 (hk : S (i * 5) = 1) : codeAt S r i = 0 ∧ nowAt S r i = -1 ∧ retAt S r i = [] ∧ addAt S r i = [] ∧ offAt S r i = [] ∧ stq S r (i + 1) = { stq S r i with ready := true } := by
  refine ⟨?_, ?_, ?_, ?_, ?_, ?_⟩
  · simp [codeAt, QS.code, hk]
  · simp [nowAt, QS.now, hk]
  · simp [retAt, QS.ret, hk]
  · simp [addAt, QS.add, hk]
  · simp [offAt, QS.off, hk]
  · show (stq S r i).step r (S (i * 5)) (S (i * 5 + 1)) (S (i * 5 + 2)) = _
    simp [QS.step, hk]
theorem way2u (hk : S (i * 5) = 2) (hu : (stq S r i).sh = true) : codeAt S r i = 0 ∧ nowAt S r i = (stq S r i).q.headD 0 ∧ retAt S r i = [(stq S r i).act] ∧ addAt S r i = [(stq S r i).q.headD 0] ∧ offAt S r i = (if (stq S r i).tok then [(stq S r i).act] else []) ∧
    stq S r (i + 1) = { q := (stq S r i).q.tail, act := (stq S r i).q.headD 0, hi := (stq S r i).act, pk := 0, per := perOf r, ready := (stq S r i).ready, tok := true } := by
  refine ⟨?_, ?_, ?_, ?_, ?_, ?_⟩
  · simp [codeAt, QS.code, hk]
  · simp [nowAt, QS.now, hk, hu]
  · simp [retAt, QS.ret, hk, hu]
  · simp [addAt, QS.add, hk, hu]
  · simp [offAt, QS.off, hk, hu]
  · show (stq S r i).step r (S (i * 5)) (S (i * 5 + 1)) (S (i * 5 + 2)) = _
    simp [QS.step, hk, hu]
theorem way2n (hk : S (i * 5) = 2) (hu : (stq S r i).sh = false) : codeAt S r i = 0 ∧ nowAt S r i = (stq S r i).act ∧ retAt S r i = [] ∧ addAt S r i = [] ∧ offAt S r i = [] ∧ stq S r (i + 1) = stq S r i := by
  refine ⟨?_, ?_, ?_, ?_, ?_, ?_⟩
  · simp [codeAt, QS.code, hk]
  · simp [nowAt, QS.now, hk, hu]
  · simp [retAt, QS.ret, hk, hu]
  · simp [addAt, QS.add, hk, hu]
  · simp [offAt, QS.off, hk, hu]
  · show (stq S r i).step r (S (i * 5)) (S (i * 5 + 1)) (S (i * 5 + 2)) = _
    simp [QS.step, hk, hu]
theorem way3 (hk : S (i * 5) = 3) : codeAt S r i = 0 ∧ nowAt S r i = -1 ∧ retAt S r i = [] ∧ addAt S r i = [] ∧ offAt S r i = [] ∧ stq S r (i + 1) = { stq S r i with pk := (stq S r i).pk + min (S (i * 5 + 1)) 100000 } := by
  refine ⟨?_, ?_, ?_, ?_, ?_, ?_⟩
  · simp [codeAt, QS.code, hk]
  · simp [nowAt, QS.now, hk]
  · simp [retAt, QS.ret, hk]
  · simp [addAt, QS.add, hk]
  · simp [offAt, QS.off, hk]
  · show (stq S r i).step r (S (i * 5)) (S (i * 5 + 1)) (S (i * 5 + 2)) = _
    simp [QS.step, hk]
end
theorem qok_of {s : QS} {i : Nat} (h : QI s i) : QOk (arr s.q) s.q.length s.act s.hi := by
  refine ⟨srt_arr h.up, by rw [lst_arr], h.ha, fun j hj => h.gt _ (arr_mem hj)⟩
end Go.Proofs.YtjanndmmhjnpcaaDoor
