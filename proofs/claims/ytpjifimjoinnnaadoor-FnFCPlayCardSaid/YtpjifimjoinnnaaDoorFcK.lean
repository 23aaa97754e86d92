/- A step, kind by kind. -/
import Derived.Test.YtpjifimjoinnnaaDoorFcJ
set_option autoImplicit true
set_option relaxedAutoImplicit true
set_option linter.unusedVariables false
set_option linter.unusedSimpArgs false
namespace Go.Proofs.YtpjifimjoinnnaaDoor
open Go Go.Sy Go.RowKit
variable {s : Fs} {x : Stp1} {g : Int} {n : Nat} {c : Nat}
theorem e6a_iff (p : P1) (x : Stp1) : e6a p x ↔ (p.fin ≠ 0 ∧ x.fin ≠ 0 ∧ x.off ≠ p.h) ∨ (p.fin ≠ 0 ∧ p.h < x.off) := by unfold e6a; constructor <;> intro h <;> omega
theorem b2i_ne {b : Bool} : b2i b ≠ 0 ↔ b = true := by cases b <;> simp [b2i]
theorem b2i_z {b : Bool} : b2i b = 0 ↔ b = false := by cases b <;> simp [b2i]
theorem stp0a (hk : x.k = 0) (h : e6a (s.p x.S.toNat) x) : stp g s x = s := by unfold stp; simp only [hk, if_true, if_pos h]
theorem stp0b (hk : x.k = 0) (h : ¬ e6a (s.p x.S.toNat) x) (h2 : e6b (s.p x.S.toNat) x) : stp 1 s x = { s with p := s.set x.S.toNat { s.p x.S.toNat with fin := 1 } } := by unfold stp; simp only [hk, if_true, if_neg h, if_pos h2]
theorem stp0c (hk : x.k = 0) (h : ¬ e6a (s.p x.S.toNat) x) (h2 : ¬ e6b (s.p x.S.toNat) x) (h3 : e3a (s.p x.S.toNat) x) : stp g s x = { s with p := s.set x.S.toNat (comeP (s.p x.S.toNat) x) } := by unfold stp; simp only [hk, if_true, if_neg h, if_neg h2, if_pos h3]
theorem stp0d (hk : x.k = 0) (h : ¬ e6a (s.p x.S.toNat) x) (h2 : ¬ e6b (s.p x.S.toNat) x) (h3 : ¬ e3a (s.p x.S.toNat) x) : stp g s x = { s with p := s.set x.S.toNat (comeP (s.p x.S.toNat) x), c := comeC s.c (s.p x.S.toNat) x } := by unfold stp; simp only [hk, if_true, if_neg h, if_neg h2, if_neg h3]
theorem stp1 (hk : x.k = 1) : stp g s x = { s with p := s.set x.S.toNat { s.p x.S.toNat with r := (s.p x.S.toNat).r + x.n }, c := { s.c with r := s.c.r + x.n } } := by unfold stp; simp [hk]
theorem stp2 (hk : x.k = 2) : stp 1 s x = { s with p := s.set x.S.toNat { s.p x.S.toNat with r := (s.p x.S.toNat).h }, c := { s.c with r := s.c.r + ((s.p x.S.toNat).h - (s.p x.S.toNat).r) } } := by unfold stp; simp [hk]
theorem stp3a (hk : x.k = 3) (h : (s.p x.S.toNat).fin ≠ 0) : stp g s x = s := by unfold stp; simp [hk, h]
theorem stp3b (hk : x.k = 3) (h : (s.p x.S.toNat).fin = 0) : stp g s x = { s with p := s.set x.S.toNat (upP (s.p x.S.toNat) s.rtt x.at_), c := enP s.c (s.p x.S.toNat) s.rtt x.at_ } := by unfold stp; simp [hk, h]
theorem stp4 (hk : x.k = 4) : stp g s x = { s with c := upP s.c s.rtt x.at_ } := by unfold stp; simp [hk]
theorem stp5 (hk : x.k = 5) : stp g s x = { s with p := s.set x.S.toNat { s.p x.S.toNat with l := max (s.p x.S.toNat).l x.n } } := by unfold stp; simp [hk]
theorem stp6 (hk : x.k = 6) : stp g s x = { s with c := { s.c with l := max s.c.l x.n } } := by unfold stp; simp [hk]
theorem stp7 (hk : x.k = 7) : stp g s x = { s with p := s.set x.S.toNat { s.p x.S.toNat with s := (s.p x.S.toNat).s + x.n }, c := { s.c with s := s.c.s + x.n } } := by unfold stp; simp [hk]
theorem stp8 (hk : x.k = 8) : stp g s x = s := by unfold stp; simp [hk]
theorem stp9 (hk : x.k = 9) : stp g s x = { s with p := s.set x.S.toNat (blkP (s.p x.S.toNat)) } := by unfold stp; simp [hk]
theorem stp10 (hk : x.k = 10) : stp g s x = { s with c := blkP s.c } := by unfold stp; simp [hk]
theorem stp11 (hk : x.k = 11) : stp g s x = { s with rtt := x.n, smp := 1 } := by unfold stp; simp [hk]
theorem code_n (hk : x.k ≠ 0) : codeF s x = 0 := by unfold codeF; rw [if_neg hk]
theorem code_6 (hk : x.k = 0) (h : e6a (s.p x.S.toNat) x ∨ e6b (s.p x.S.toNat) x) : codeF s x = 6 := by unfold codeF; rw [if_pos hk, if_pos h]
theorem code_3 (hk : x.k = 0) (h : ¬ e6a (s.p x.S.toNat) x) (h2 : ¬ e6b (s.p x.S.toNat) x) (h3 : e3a (s.p x.S.toNat) x ∨ e3b s.c (s.p x.S.toNat) x) : codeF s x = 3 := by unfold codeF; rw [if_pos hk, if_neg (fun hh => hh.elim h h2), if_pos h3]
theorem code_0 (hk : x.k = 0) (h : ¬ e6a (s.p x.S.toNat) x) (h2 : ¬ e6b (s.p x.S.toNat) x) (h3 : ¬ e3a (s.p x.S.toNat) x) (h4 : ¬ e3b s.c (s.p x.S.toNat) x) : codeF s x = 0 := by
  unfold codeF; rw [if_pos hk, if_neg (fun hh => hh.elim h h2), if_neg (fun hh => hh.elim h3 h4)]
theorem num_n (h3 : x.k ≠ 3) (h4 : x.k ≠ 4) (h8 : x.k ≠ 8) (h10 : x.k ≠ 10) : numF s x = 0 := by unfold numF; simp only [if_neg h3, if_neg h4, if_neg h8, if_neg h10]
theorem num_3a (hk : x.k = 3) (h : (s.p x.S.toNat).fin ≠ 0) : numF s x = 0 := by unfold numF; simp [hk, h]
theorem num_3b (hk : x.k = 3) (h : (s.p x.S.toNat).fin = 0) : numF s x = upO x.at_ s.rtt (s.p x.S.toNat).r (s.p x.S.toNat).w (s.p x.S.toNat).z (s.p x.S.toNat).m (s.p x.S.toNat).t (s.p x.S.toNat).f := by unfold numF; simp [hk, h]
theorem num_4 (hk : x.k = 4) : numF s x = upO x.at_ s.rtt s.c.r s.c.w s.c.z s.c.m s.c.t s.c.f := by unfold numF; simp [hk]
theorem num_8 (hk : x.k = 8) : numF s x = min ((s.p x.S.toNat).l - (s.p x.S.toNat).s) (s.c.l - s.c.s) := by unfold numF; simp [hk]
theorem num_10 (hk : x.k = 10) : numF s x = if newB s.c then s.c.l else 0 := by unfold numF; simp [hk]
theorem is_n (h1 : x.k ≠ 1) (h5 : x.k ≠ 5) (h6 : x.k ≠ 6) (h7 : x.k ≠ 7) (h9 : x.k ≠ 9) (h10 : x.k ≠ 10) : ¬ isF s x := by unfold isF; omega
theorem is_1 (hk : x.k = 1) : isF s x ↔ (s.p x.S.toNat).fin = 0 ∧ duE (s.p x.S.toNat).w ((s.p x.S.toNat).r + x.n) (s.p x.S.toNat).z := by unfold isF; simp [hk]
theorem is_5 (hk : x.k = 5) : isF s x ↔ (s.p x.S.toNat).l < x.n := by unfold isF; simp [hk]
theorem is_6 (hk : x.k = 6) : isF s x ↔ s.c.l < x.n := by unfold isF; simp [hk]
theorem is_7 (hk : x.k = 7) : isF s x := by unfold isF; simp [hk]
theorem is_9 (hk : x.k = 9) : isF s x ↔ newB (s.p x.S.toNat) := by unfold isF; simp [hk]
theorem is_10 (hk : x.k = 10) : isF s x ↔ newB s.c := by unfold isF; simp [hk]
theorem also_n (hk : x.k ≠ 1) : ¬ alsoF s x := fun h => hk h.1
theorem also_1 (hk : x.k = 1) : alsoF s x ↔ duE s.c.w (s.c.r + x.n) s.c.z := by unfold alsoF; simp [hk]
theorem fin_or2 (b : Bool) (f : Int) : b2i (!(!b && (f == 0))) = if b2i b ≠ 0 ∨ f ≠ 0 then 1 else 0 := by
  by_cases hf : f = 0 <;> cases b <;> simp [b2i, hf]
theorem ite_lt {E : Env} {x y : SE} {a b : Int} : (if (SB.lt x y).den E = true then a else b) = if x.den E < y.den E then a else b := by simp only [SB.den, decide_eq_true_eq]
theorem set_self (s : Fs) (i : Nat) (y : P1) : s.set i y i = y := by unfold Fs.set; rw [if_pos rfl]
theorem set_ne (s : Fs) {i j : Nat} (h : j ≠ i) (y : P1) : s.set i y j = s.p j := by unfold Fs.set; rw [if_neg h]
end Go.Proofs.YtpjifimjoinnnaaDoor
