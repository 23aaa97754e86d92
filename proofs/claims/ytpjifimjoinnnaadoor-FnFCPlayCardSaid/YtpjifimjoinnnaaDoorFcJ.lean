/- What holds at the head of the play's loop. -/
import Derived.Test.YtpjifimjoinnnaaDoorFcD
import Derived.Test.YtpjifimjoinnnaaDoorFcU
import Derived.Test.YtpjifimjoinnnaaDoorFcV
import Derived.Test.YtpjifimjoinnnaaDoorFcW
import Derived.Recover
import Derived.Defers
import Derived.Tactics
set_option autoImplicit true
set_option relaxedAutoImplicit true
set_option linter.unusedVariables false
set_option linter.unusedSimpArgs false
set_option maxRecDepth 100000
set_option maxHeartbeats 4000000
namespace Go.Proofs.YtpjifimjoinnnaaDoor
open Go Go.Sy Go.RowKit
theorem catch_idle (a : Value) (w : World) : CallsD Tryd.prog 19 #[a] .returning w fun e u w' => (∃ v, e = .returned v) ∧ u = .returning ∧ w' = w := by
  refine callsD_of_wpS Tryd.func19 rfl fun c₀ cs hu => ?_
  apply wpS_seq
  apply wpS_region
  simp [wpOpsS, go_sem, recoverD, hu, Tryd.ntmps19, Exit.thenS]
  refine wpS_cond (t := false) (by simp [Act.eval, Array.replicate]) ?_
  simp only [Bool.false_eq_true, if_false]
  refine wpS_of_wp (wp_skip ?_)
  cases c₀
  simp_all [bodyPostS, results, Tryd.results19]
theorem prm8_ok (n : Nat) (E : Env) (hE : E.fn = fns) : PrmOk E (prm8 n Tryd.prog) where
  ct := by
    intro c hc
    simp only [prm8, List.mem_cons, List.not_mem_nil, or_false] at hc
    rw [hE]
    rcases hc with rfl | rfl | rfl | rfl | rfl | rfl | rfl | rfl | rfl | rfl
    · exact ct25_ok
    · exact ct26_ok
    · exact ct27_ok
    · exact ct28_ok
    · exact ct29_ok
    · exact ct30_ok
    · exact ct22_ok
    · exact ct31_ok
    · exact ct33_ok
    · exact ct34_ok
  mix := by kernel_rfl
  okf := okf_call
  body := okf_body
  mts := by intro x hx; cases hx
  dfr := by
    intro f hf a w
    simp only [prm8, List.mem_cons, List.not_mem_nil, or_false] at hf
    subst hf
    exact catch_idle a w
  dfk := by
    intro f hf
    simp only [prm8, List.mem_cons, List.not_mem_nil, or_false] at hf
    subst hf; simp [prm8, okf]
def cE (E : Env) : P1 := ⟨E.i 2, E.i 3, E.i 4, E.i 5, E.i 6, E.i 7, E.i 8, E.i 9, E.i 10, E.i 11, 0, 0⟩
def pE (E : Env) (i : Nat) : P1 := ⟨E.i (100 * (i + 1) + 1), E.i (100 * (i + 1) + 2), E.i (100 * (i + 1) + 3), E.i (100 * (i + 1) + 4), E.i (100 * (i + 1) + 5), E.i (100 * (i + 1) + 6), E.i (100 * (i + 1) + 7), E.i (100 * (i + 1) + 8), E.i (100 * (i + 1) + 9), E.i (100 * (i + 1) + 10), b2i (E.b (2 + i)), 0⟩
def fE (E : Env) : Fs := ⟨cE E, pE E, E.i 40, b2i (E.b 1)⟩
def s0E (E0 : Env) : Fs := st0 (E0.i 12) (E0.i 13) (E0.i 14) (E0.a 2)
structure Same (n : Nat) (s s' : Fs) : Prop where
  c : s.c = s'.c
  p : ∀ i, i < n → s.p i = s'.p i
  rtt : s.rtt = s'.rtt
  smp : s.smp = s'.smp
theorem same_ite {n : Nat} {c : Prop} [Decidable c] {a a' b b' : Fs} (h1 : Same n a a') (h2 : Same n b b') : Same n (if c then a else b) (if c then a' else b') := by
  split
  · exact h1
  · exact h2
theorem same_stp {n : Nat} {s s' : Fs} (h : Same n s s') {g : Int} {x : Stp1} (hx : x.S.toNat < n) : Same n (stp g s x) (stp g s' x) := by
  have hp := h.p _ hx
  have hset : ∀ (y : P1) i, i < n → s.set x.S.toNat y i = s'.set x.S.toNat y i := fun y i hi => by
    unfold Fs.set; split
    · rfl
    · exact h.p i hi
  unfold stp
  simp only [hp, h.c, h.rtt]
  repeat' apply same_ite
  all_goals first
    | exact h
    | exact ⟨h.c, hset _, h.rtt, h.smp⟩
    | exact ⟨rfl, h.p, h.rtt, h.smp⟩
    | exact ⟨rfl, h.p, rfl, h.smp⟩
    | exact ⟨h.c, h.p, rfl, rfl⟩
    | exact ⟨rfl, h.p, rfl, rfl⟩
    | exact ⟨rfl, hset _, h.rtt, h.smp⟩
    | exact ⟨rfl, hset _, rfl, h.smp⟩
theorem same_seen {n : Nat} {s s' : Fs} (h : Same n s s') {g : Int} {x : Stp1} (hx : x.S.toNat < n) (c : Nat) : seenF g s x c = seenF g s' x c := by
  have hp := h.p _ hx
  have hs := same_stp h (g := g) hx
  unfold seenF
  split
  · unfold codeF; rw [hp, h.c]
  · unfold numF; rw [hp, h.c, h.rtt]
  · have : isF s x ↔ isF s' x := by unfold isF; rw [hp, h.c]
    simp only [this]
  · have : alsoF s x ↔ alsoF s' x := by unfold alsoF; rw [h.c]
    simp only [this]
  · rw [hs.p _ hx]
  · rw [hs.p _ hx]
  · rw [hs.c]
  · rw [hs.c]
theorem same_in {n : Nat} {s s' : Fs} (h : Same n s s') {x : Stp1} (hx : okIn n s' x) : okIn n s x := by
  obtain ⟨h1, h2, h3, h4, h5, h6, h7, h8⟩ := hx
  have hp := h.p x.S.toNat (by omega)
  exact ⟨h1, h2, h3, h4, h5, by rw [hp]; exact h6, by rw [hp, h.c]; exact h7, by rw [h.smp]; exact h8⟩
theorem same_good {n : Nat} {s s' : Fs} (h : Same n s s') (hg : Good n s') : Good n s :=
  ⟨by rw [h.c]; exact hg.1, fun i hi => by rw [h.p i hi]; exact hg.2.1 i hi, by rw [h.rtt]; exact hg.2.2.1, by rw [h.rtt]; exact hg.2.2.2⟩
structure I8 (n : Nat) (E0 E : Env) (k : Nat) : Prop where
  h0 : E.i 0 = E0.i 0
  h20 : E.i 20 = k
  le : (k : Int) ≤ E0.i 0
  ha : E.a 0 = E0.a 0
  ha2 : E.a 2 = E0.a 2
  st : Same n (fE E) (runF 1 (s0E E0) (E0.a 0) k)
  row : ∀ j, j < k * 8 → E.a 1 j = outF 1 (s0E E0) (E0.a 0) j
theorem fin8 {n : Nat} {E0 E E' : Env} {k : Nat} (hI : I8 n E0 E k) (hlt : (k : Int) < E0.i 0) (hin : okIn n (fE E) (inp (E0.a 0) k))
    (h0 : E'.i 0 = E.i 0) (h20 : E'.i 20 = E.i 20 + 1) (ha : E'.a 0 = E.a 0) (ha2 : E'.a 2 = E.a 2) {e : SE} {l : SL} (hs : Same n (fE E') (stp 1 (fE E) (inp (E0.a 0) k)))
    (he : (e.den E).toNat = k * 8) (harr : E'.a 1 = (AE.tl (.v 1) e l).den E) (hc : ∀ c, c < 8 → l.nth E c = seenF 1 (fE E) (inp (E0.a 0) k) c) : I8 n E0 E' (k + 1) where
  h0 := h0.trans hI.h0
  h20 := by rw [h20, hI.h20]; omega
  le := by omega
  ha := ha.trans hI.ha
  ha2 := ha2.trans hI.ha2
  st := by
    have := same_stp hI.st (g := 1) (x := inp (E0.a 0) k) (by have := hin.2.1; omega)
    exact ⟨hs.c.trans this.c, fun i hi => (hs.p i hi).trans (this.p i hi), hs.rtt.trans this.rtt, hs.smp.trans this.smp⟩
  row j hj := by
    rw [harr]
    simp only [AE.den, he]
    split
    · rename_i h; exact hI.row j h
    · rename_i h
      obtain ⟨c, rfl⟩ : ∃ c, j = k * 8 + c := ⟨j - k * 8, by omega⟩
      have hc' : c < 8 := by omega
      have e1 : (k * 8 + c) / 8 = k := by omega
      have e2 : (k * 8 + c) % 8 = c := by omega
      rw [Nat.add_sub_cancel_left, hc c hc']
      unfold outF
      rw [e1, e2]
      exact same_seen hI.st (by have := hin.2.1; omega) c
theorem g0_den {E : Env} (hE : E.fn = fns) (n : Nat) : (SB.ap 0 (.i (.v 12) (.i (.v 13) (.i (.v 14) (.a (.v 2) (.i (.c n) (.a (.v 0) (.i (.v 0) .nil)))))))).den E = true ↔ scrOk n (s0E E) (E.a 0) (E.i 0).toNat := by
  show E.fn.g 0 [.i (E.i 12), .i (E.i 13), .i (E.i 14), .a ((AE.v 2).den E), .i (n : Int), .a ((AE.v 0).den E), .i (E.i 0)] = true ↔ _
  rw [hE]
  have e : (n : Int).toNat = n := by omega
  show @decide (scrOk ((n : Int).toNat) _ _ _) (Classical.propDecidable _) = true ↔ _
  rw [e]
  exact @decide_eq_true_iff _ (Classical.propDecidable _)
theorem pre8 {n : Nat} {E0 : Env} (hE : E0.fn = fns) (hF : Facts E0 (ct8 n).pre) : (0 ≤ E0.i 0 ∧ E0.i 0 ≤ 1000) ∧ (0 ≤ E0.i 14 ∧ E0.i 14 ≤ 1000000) ∧ scrOk n (s0E E0) (E0.a 0) (E0.i 0).toNat := by
  simp only [ct8, bd, List.cons_append, List.nil_append, facts_cons, facts_nil, le_t, d_c, d_v, and_true, g0_den hE] at hF
  exact ⟨⟨hF.1, hF.2.1⟩, ⟨hF.2.2.1, hF.2.2.2.1⟩, hF.2.2.2.2⟩
theorem in8 {n : Nat} {E0 E : Env} {k : Nat} (hI : I8 n E0 E k) (hsc : scrOk n (s0E E0) (E0.a 0) (E0.i 0).toNat) (hlt : E.i 20 < E.i 0) : (k : Int) < E0.i 0 ∧ okIn n (fE E) (inp (E0.a 0) k) := by
  have h1 := hI.h20; have h2 := hI.h0
  exact ⟨by omega, same_in hI.st ((hsc k (by omega)).2 (by omega))⟩
theorem good8 {n : Nat} {E0 E : Env} {k : Nat} (hI : I8 n E0 E k) (hsc : scrOk n (s0E E0) (E0.a 0) (E0.i 0).toNat) : Good n (fE E) := by
  have := hI.le
  exact same_good hI.st (hsc k (by omega)).1
def mu8 (E0 : Env) (_ : Nat) (E : Env) : Nat := (E0.i 0 - E.i 20).toNat
def J8 (n : Nat) (E0 : Env) (_ : Nat) (E : Env) : Prop := ∃ k, I8 n E0 E k
end Go.Proofs.YtpjifimjoinnnaaDoor
